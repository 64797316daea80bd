/- Frames over memory, and a bytes.Buffer's state at any offset: definitions and plain lemmas, without any walk. Bytes that a call gathers itself: what it owns, as bytes. A text turned to bytes. bytes.Buffer: growSlice, tryGrowByReslice, grow, Write, WriteByte, WriteString, Read, ReadByte, Bytes, Len, Reset at any state of the buffer. impl.owned, laws.joined's like: bytes copied into new memory; bytes turned to a text. bytes.Buffer: grow, Write, WriteByte, WriteString at any state of the buffer. bytes.Buffer.grow, path by path. bytes.Buffer.grow of a buffer that has a row: it slides, or it grows. bytes.Buffer: Write, WriteByte, WriteString onto a buffer of which nothing has been read. encoding/binary: PutUint16, PutUint32, PutUint64 into a struct's array. -/
import Derived.WalkKit
import Derived.Lib.BufferRead
import Derived.Lib.BufferOwn
import Derived.Laws.AppendOwn
import Derived.OwnWalk
import Derived.Laws.IdiomStrings
import Derived.WalkSpells
import Derived.WalkLawsBesides
import Derived.Lib.AppendZeros
import Derived.Lib.ByteType
import Derived.Shelf.Abstract
import Derived.Lib.Hide
import Derived.Laws.IdiomCopy
import Derived.Deep.QuietTactic
import Derived.BigQuiet
import Derived.Laws.AppendOwnNone
import Derived.Deep.RegionHeld3
import Derived.Deep.RegionWith
import Derived.StillTailTactics
import Derived.Laws.MakeOwn
import Derived.Lib.BufferWrite
import Derived.Lib.Endian
import Derived.Lib.EndianBits
import Derived.Test.YtdifknecndlklaaGreatDoorProg
set_option linter.all false
namespace Go.Proofs.YtdifknecndlklaaGreatDoor
open Go Go.RowKit

/-- What turns from w to w' lies in F or is new; what belongs to the object behind (F') was its own ahead or is new. -/
structure Fr (F F' : Nat → Prop) (w w' : World) : Prop where
  os : w'.os = w.os
  tape : w'.tape = w.tape
  output : w'.output = w.output
  size : w.heap.size ≤ w'.heap.size
  keep : ∀ k, k < w.heap.size → ¬ F k → w'.heap[k]? = w.heap[k]?
  foot : ∀ k, k < w.heap.size → F' k → F k

/-- No block. -/
def noF : Nat → Prop := fun _ => False

theorem Fr.refl (F : Nat → Prop) (w : World) : Fr F F w w := ⟨rfl, rfl, rfl, Nat.le_refl _, fun _ _ _ => rfl, fun _ _ h => h⟩
theorem Fr.trans {F F' F'' : Nat → Prop} {a b c : World} (h : Fr F F' a b) (k : Fr F' F'' b c) : Fr F F'' a c :=
  ⟨k.os.trans h.os, k.tape.trans h.tape, k.output.trans h.output, Nat.le_trans h.size k.size,
    fun i hi hn => (k.keep i (Nat.lt_of_lt_of_le hi h.size) (fun hf => hn (h.foot i hi hf))).trans (h.keep i hi hn),
    fun i hi hf => h.foot i hi (k.foot i (Nat.lt_of_lt_of_le hi h.size) hf)⟩
theorem Fr.conv {F F' F'' : Nat → Prop} {w w' : World} (h : Fr F F' w w') (c : ∀ k, k < w.heap.size → F'' k → F' k) : Fr F F'' w w' :=
  ⟨h.os, h.tape, h.output, h.size, h.keep, fun k hk hf => h.foot k hk (c k hk hf)⟩
/-- A wider set ahead. -/
theorem Fr.widen {F F' G : Nat → Prop} {w w' : World} (h : Fr F F' w w') (c : ∀ k, F k → G k) : Fr G F' w w' :=
  ⟨h.os, h.tape, h.output, h.size, fun k hk hn => h.keep k hk (fun hf => hn (c k hf)), fun k hk hf => c k (h.foot k hk hf)⟩
/-- Beside another object's blocks. -/
theorem Fr.beside {F F' : Nat → Prop} {w w' : World} (h : Fr F F' w w') (G : Nat → Prop) : Fr (fun k => F k ∨ G k) (fun k => F' k ∨ G k) w w' :=
  ⟨h.os, h.tape, h.output, h.size, fun k hk hn => h.keep k hk (fun hf => hn (Or.inl hf)), fun k hk hf => hf.elim (fun x => Or.inl (h.foot k hk x)) Or.inr⟩
theorem Fr.drew {F F' : Nat → Prop} {w w' : World} (h : Fr F F' w w') : Fr F F' w w'.drew := ⟨h.os, h.tape, h.output, h.size, h.keep, h.foot⟩
theorem Fr.drewN {F F' : Nat → Prop} {w w' : World} (h : Fr F F' w w') (n : Nat) : Fr F F' w (w'.drewN n) := ⟨h.os, h.tape, h.output, h.size, h.keep, h.foot⟩
theorem Fr.alloc {F F' : Nat → Prop} {w w' : World} (h : Fr F F' w w') (o : Obj) : Fr F F' w (w'.alloc o) :=
  ⟨h.os, h.tape, h.output, Nat.le_trans h.size (by simp), fun k hk hn => (Below.heap_alloc w' o k (Nat.lt_of_lt_of_le hk h.size)).trans (h.keep k hk hn), h.foot⟩
theorem Fr.setCell {F F' : Nat → Prop} {w w' : World} (h : Fr F F' w w') {p : Addr} (hp : F' p.block ∨ w.heap.size ≤ p.block) (v : Value) : Fr F F' w (w'.setCell p v) :=
  ⟨h.os, h.tape, h.output, by simpa [World.setCell] using h.size, fun k hk hn => by
    rw [Below.heap_setCell _ _ _ _ (fun e => by subst e; rcases hp with hp | hp; exact hn (h.foot _ hk hp); omega)]
    exact h.keep k hk hn, h.foot⟩
theorem Fr.setRow {F F' : Nat → Prop} {w w' : World} (h : Fr F F' w w') {g : Nat} (hp : F' g ∨ w.heap.size ≤ g) (a : Array Value) : Fr F F' w (w'.setRow g a) :=
  ⟨h.os, h.tape, h.output, by simpa using h.size, fun k hk hn => by
    rw [setRow_other _ _ _ _ (fun e => by subst e; rcases hp with hp | hp; exact hn (h.foot _ hk hp); omega)]
    exact h.keep k hk hn, h.foot⟩
theorem Fr.of_below {F : Nat → Prop} {w w' : World} (h : Below w.heap.size w w') : Fr F F w w' := ⟨h.os, h.tape, h.output, h.size, fun k hk _ => h.block k hk, fun _ _ h => h⟩
theorem Fr.below {F F' : Nat → Prop} {w w' : World} (h : Fr F F' w w') {B : Nat} (hB : B ≤ w.heap.size) (c : ∀ k, F k → B ≤ k) : Below B w w' :=
  ⟨h.os, h.tape, h.output, h.size, fun k hk => h.keep k (by omega) (fun hf => by have := c k hf; omega)⟩
/-- A callee that touches nothing old. -/
theorem Fr.old {F F' G : Nat → Prop} {a w w' : World} (h : Fr F F' a w) (hb : Fr noF G w w') : Fr F F' a w' :=
  h.trans ⟨hb.os, hb.tape, hb.output, hb.size, fun k hk _ => hb.keep k hk (fun x => x), fun _ _ h => h⟩
theorem Fr.block {F F' : Nat → Prop} {w w' : World} (h : Fr F F' w w') {k : Nat} {o : Obj} (hk : w.heap[k]? = some o) (hn : ¬ F k) : w'.heap[k]? = some o :=
  (h.keep k (Array.getElem?_eq_some_iff.1 hk).1 hn).trans hk
theorem Fr.cell {F F' : Nat → Prop} {w w' : World} (h : Fr F F' w w') {p : Addr} {v : Value} (hc : w.cell? p = some v) (hn : ¬ F p.block) : w'.cell? p = some v :=
  (World.cell?_of_block (h.keep p.block (World.block_lt_of_cell? w p hc) hn)).trans hc

theorem lt_heap {w : World} {g : Nat} {o : Obj} (hg : w.heap[g]? = some o) : g < w.heap.size := (Array.getElem?_eq_some_iff.1 hg).1
theorem alloc_at {w : World} {o : Obj} {k : Nat} {x : Obj} (h : w.heap[k]? = some x) : (w.alloc o).heap[k]? = some x := (Below.heap_alloc w o k (lt_heap h)).trans h
theorem alloc_new (w : World) (o : Obj) : (w.alloc o).heap[w.heap.size]? = some o := heap_alloc_new w o
theorem setCell_at {w : World} {b i : Nat} {cs : Array Value} {t : TypeId} {fr : Nat × Nat} (h : w.heap[b]? = some (.cells cs t fr)) (v : Value) :
    (w.setCell ⟨b, i, none⟩ v).heap[b]? = some (.cells (cs.setIfInBounds i v) t fr) := Lib.heap_setCell_same h v
theorem setCell_ne {w : World} {b i k : Nat} {x : Obj} (h : w.heap[k]? = some x) (hk : k ≠ b) (v : Value) : (w.setCell ⟨b, i, none⟩ v).heap[k]? = some x :=
  (Below.heap_setCell w ⟨b, i, none⟩ v k hk).trans h
theorem setRow_ne {w : World} {g k : Nat} {x : Obj} (h : w.heap[k]? = some x) (hk : k ≠ g) (a : Array Value) : (w.setRow g a).heap[k]? = some x :=
  (setRow_other w g k a hk).trans h
theorem cell_at {w : World} {b : Nat} {cs : Array Value} {t : TypeId} {fr : Nat × Nat} (h : w.heap[b]? = some (.cells cs t fr)) (i : Nat) : w.cell? ⟨b, i, none⟩ = cs[i]? := Lib.cell_of_heap h i
theorem free_at {w : World} {b : Nat} {cs : Array Value} {t : TypeId} (h : w.heap[b]? = some (.cells cs t (0, 0))) (i : Nat) : w.frozen? ⟨b, i, none⟩ = false := Lib.frozen_of_heap h i
theorem tag_ne {w : World} {a b : Nat} {c d : Array Value} {s t : TypeId} {f g : Nat × Nat} (h : w.heap[a]? = some (.cells c s f)) (k : w.heap[b]? = some (.cells d t g)) (ne : s ≠ t) : a ≠ b := by
  intro e; subst e; rw [h] at k; injection k with k; injection k with _ k _; exact ne k

/-- bytes.Buffer's type, uint8's. -/
abbrev TB : TypeId := 130
abbrev U8 : TypeId := 5

/-- A bytes.Buffer in block b: its unread bytes are l; what it holds, the read ones too, are at most T; z: none has been read. -/
def Buf (w : World) (b T : Nat) (z : Bool) (l : List UInt8) : Prop :=
  (l = [] ∧ ∃ lr, w.heap[b]? = some (.cells #[.slice none 0 0, .int .i64 0, .int .i8 lr] TB (0, 0))) ∨
  (∃ lr r n c o cur, w.heap[b]? = some (.cells #[.slice (some ⟨r, 0, none⟩) n c, .int .i64 ((o : Nat) : Int), .int .i8 lr] TB (0, 0)) ∧ w.heap[r]? = some (.cells cur U8 (0, 0)) ∧ cur.size = c ∧ c ≤ maxLen ∧
    o ≤ n ∧ n ≤ c ∧ n ≤ T ∧ (cur.toList.take n).drop o = Lib.byteCells l ∧ (z = true → o = 0))

/-- The blocks of a buffer: its own, and the one in which its bytes lie. -/
def BF (w : World) (b : Nat) (k : Nat) : Prop := k = b ∨ ∃ n c x y, w.heap[b]? = some (.cells #[.slice (some ⟨k, 0, none⟩) n c, x, y] TB (0, 0))

/-- A buffer with k more cells behind its bytes, from place i on, to be written. -/
def Room (w : World) (b T : Nat) (z : Bool) (l : List UInt8) (i k : Nat) : Prop :=
  ∃ lr r c o cur, w.heap[b]? = some (.cells #[.slice (some ⟨r, 0, none⟩) (i + k) c, .int .i64 ((o : Nat) : Int), .int .i8 lr] TB (0, 0)) ∧ w.heap[r]? = some (.cells cur U8 (0, 0)) ∧ cur.size = c ∧ c ≤ maxLen ∧
    o ≤ i ∧ i + k ≤ c ∧ i + k ≤ T ∧ (cur.toList.take i).drop o = Lib.byteCells l ∧ (z = true → o = 0)

theorem bcells_append (a b : List UInt8) : Lib.byteCells (a ++ b) = Lib.byteCells a ++ Lib.byteCells b := by simp [Lib.byteCells]
theorem bcells_length (a : List UInt8) : (Lib.byteCells a).length = a.length := by simp [Lib.byteCells]
theorem bcells_get {l : List UInt8} {j : Nat} {v : Value} (h : (Lib.byteCells l)[j]? = some v) : ∃ u : UInt8, l[j]? = some u ∧ v = .int .u8 u.toNat := by
  simp only [Lib.byteCells, List.getElem?_map, Option.map_eq_some_iff] at h
  obtain ⟨u, h1, h2⟩ := h
  exact ⟨u, h1, h2.symm⟩

theorem Buf.lt {w : World} {b T : Nat} {z : Bool} {l : List UInt8} (h : Buf w b T z l) : b < w.heap.size := by
  rcases h with ⟨_, lr, h⟩ | ⟨lr, r, n, c, o, cur, h, _⟩ <;> exact lt_heap h
theorem Buf.mono {w : World} {b T T' : Nat} {z : Bool} {l : List UInt8} (h : Buf w b T z l) (hT : T ≤ T') : Buf w b T' z l := by
  rcases h with h | ⟨lr, r, n, c, o, cur, h1, h2, h3, h4, h5, h6, h7, h8⟩
  · exact Or.inl h
  · exact Or.inr ⟨lr, r, n, c, o, cur, h1, h2, h3, h4, h5, h6, Nat.le_trans h7 hT, h8⟩
theorem Buf.len_le {w : World} {b T : Nat} {z : Bool} {l : List UInt8} (h : Buf w b T z l) : l.length ≤ T := by
  rcases h with ⟨rfl, _⟩ | ⟨lr, r, n, c, o, cur, h1, h2, h3, h4, h5, h6, h7, h8⟩
  · simp
  · have := congrArg List.length h8.1
    rw [bcells_length, List.length_drop, List.length_take, Array.length_toList] at this
    omega
/-- A block of the buffer's bears one of two tags. -/
theorem Buf.tag {w : World} {b T : Nat} {z : Bool} {l : List UInt8} (h : Buf w b T z l) {k : Nat} (hk : BF w b k) : ∃ cs t, w.heap[k]? = some (.cells cs t (0, 0)) ∧ (t = TB ∨ t = U8) := by
  rcases hk with rfl | ⟨n', c', x, y, hk⟩
  · rcases h with ⟨_, lr, h⟩ | ⟨lr, r, n, c, o, cur, h, _⟩ <;> exact ⟨_, _, h, Or.inl rfl⟩
  · rcases h with ⟨_, lr, h⟩ | ⟨lr, r, n, c, o, cur, h, hr, _⟩
    · rw [h] at hk; simp at hk
    · rw [h] at hk
      simp at hk
      obtain ⟨⟨rfl, _⟩, _⟩ := hk
      exact ⟨_, _, hr, Or.inr rfl⟩
theorem Buf.foot_lt {w : World} {b T : Nat} {z : Bool} {l : List UInt8} (h : Buf w b T z l) {k : Nat} (hk : BF w b k) : k < w.heap.size := by
  obtain ⟨cs, t, h, _⟩ := h.tag hk; exact lt_heap h
/-- A block with another tag is none of the buffer's. -/
theorem Buf.other {w : World} {b T : Nat} {z : Bool} {l : List UInt8} (h : Buf w b T z l) {k : Nat} {cs : Array Value} {t : TypeId} {f : Nat × Nat} (hk : w.heap[k]? = some (.cells cs t f)) (h1 : t ≠ TB) (h2 : t ≠ U8) : ¬ BF w b k := by
  intro hb
  obtain ⟨cs', t', h', ht⟩ := h.tag hb
  rw [hk] at h'; injection h' with h'; injection h' with _ h' _
  subst h'; rcases ht with rfl | rfl
  · exact h1 rfl
  · exact h2 rfl
theorem BF.of_same {w w' : World} {b k : Nat} (h : w'.heap[b]? = w.heap[b]?) : BF w' b k ↔ BF w b k := by unfold BF; rw [h]
/-- A buffer whose blocks stand as they stood. -/
theorem Buf.same {w w' : World} {b T : Nat} {z : Bool} {l : List UInt8} (h : Buf w b T z l) (hs : ∀ k, BF w b k → w'.heap[k]? = w.heap[k]?) : Buf w' b T z l := by
  have hb := hs b (Or.inl rfl)
  rcases h with ⟨h0, lr, h⟩ | ⟨lr, r, n, c, o, cur, h, hr, rest⟩
  · exact Or.inl ⟨h0, lr, hb.trans h⟩
  · exact Or.inr ⟨lr, r, n, c, o, cur, hb.trans h, (hs r (Or.inr ⟨_, _, _, _, h⟩)).trans hr, rest⟩
theorem Buf.keep {w w' : World} {b T : Nat} {z : Bool} {l : List UInt8} {F F' : Nat → Prop} (h : Buf w b T z l) (hf : Fr F F' w w') (hn : ∀ k, BF w b k → ¬ F k) : Buf w' b T z l :=
  h.same fun k hk => hf.keep k (h.foot_lt hk) (hn k hk)

theorem setCell_size (w : World) (p : Addr) (v : Value) : (w.setCell p v).heap.size = w.heap.size := by simp [World.setCell]

/-- The k cells are written. -/
theorem Room.fill {w : World} {b T i : Nat} {z : Bool} {l : List UInt8} (news : List UInt8) (h : Room w b T z l i news.length) :
    ∃ r c cur, w.cell? ⟨b, 0, none⟩ = some (.slice (some ⟨r, 0, none⟩) (i + news.length) c) ∧ i + news.length ≤ c ∧ c ≤ maxLen ∧ cur.size = c ∧ w.heap[r]? = some (.cells cur U8 (0, 0)) ∧ r ≠ b ∧ BF w b r ∧
      Buf (w.setRow r (cur.toList.take i ++ Lib.byteCells news ++ cur.toList.drop (i + news.length)).toArray) b T z (l ++ news) ∧
      (∀ k, BF (w.setRow r (cur.toList.take i ++ Lib.byteCells news ++ cur.toList.drop (i + news.length)).toArray) b k → BF w b k) := by
  obtain ⟨lr, r, c, o, cur, hb, hr, hcs, hc, ho, hi, hT, hl, hz⟩ := h
  have hrb : r ≠ b := tag_ne hr hb (by decide)
  have hb' : (w.setRow r (cur.toList.take i ++ Lib.byteCells news ++ cur.toList.drop (i + news.length)).toArray).heap[b]? = w.heap[b]? := setRow_other _ _ _ _ (Ne.symm hrb)
  have hlen : (cur.toList.take i).length = i := by rw [List.length_take, Array.length_toList]; omega
  refine ⟨r, c, cur, by rw [cell_at hb]; rfl, hi, hc, hcs, hr, hrb, Or.inr ⟨_, _, _, _, hb⟩, Or.inr ⟨lr, r, i + news.length, c, o, _, hb'.trans hb, setRow_heap _ _ cur _ U8 (0, 0) hr, ?_, hc, by omega, hi, hT, ?_, hz⟩, fun k hk => (BF.of_same hb').1 hk⟩
  · simp only [List.size_toArray, List.length_append, hlen, bcells_length, List.length_drop, Array.length_toList]; omega
  · rw [List.toList_toArray, List.take_append_of_le_length (by rw [List.length_append, hlen, bcells_length]; exact Nat.le_refl _), List.take_of_length_le (by rw [List.length_append, hlen, bcells_length]; exact Nat.le_refl _),
      List.drop_append_of_le_length (by rw [hlen]; exact ho), hl, bcells_append]

/-- A []byte that reads as l. -/
def Rd (w : World) (v : Value) (l : List UInt8) : Prop :=
  (v = .slice none 0 0 ∧ l = []) ∨ ∃ a n c, v = .slice (some a) n c ∧ l.length = n ∧ n ≤ c ∧ c ≤ maxLen ∧ ∀ j u, l[j]? = some u → w.cell? (a.add j) = some (.int .u8 u.toNat)
/-- The block of a slice. -/
def vblk : Value → Nat → Prop
  | .slice (some a) (_ + 1) _, k => a.block = k
  | _, _ => False
theorem block_add' (a : Addr) (j : Nat) : (a.add j).block = a.block := by unfold Addr.add; split <;> rfl
theorem Rd.keep {w w' : World} {v : Value} {l : List UInt8} {F F' : Nat → Prop} (h : Rd w v l) (hf : Fr F F' w w') (hn : ∀ k, vblk v k → ¬ F k) : Rd w' v l := by
  rcases h with h | ⟨a, n, c, rfl, hl, hc, hm, h⟩
  · exact Or.inl h
  · refine Or.inr ⟨a, n, c, rfl, hl, hc, hm, fun j u hj => hf.cell (h j u hj) ?_⟩
    have hlt : j < l.length := (List.getElem?_eq_some_iff.1 hj).1
    obtain ⟨m, rfl⟩ : ∃ m, n = m + 1 := ⟨n - 1, by omega⟩
    rw [block_add']
    exact hn _ rfl
theorem Rd.src {w : World} {a : Addr} {n c : Nat} {l : List UInt8} (h : Rd w (.slice (some a) n c) l) : l.length = n ∧ ∀ j v, (Lib.byteCells l)[j]? = some v → w.cell? (a.add j) = some v := by
  rcases h with ⟨h, _⟩ | ⟨a', n', c', h, hl, hc, hm, hs⟩
  · cases h
  · cases h
    refine ⟨hl, fun j v hj => ?_⟩
    obtain ⟨u, hu, rfl⟩ := bcells_get hj
    exact hs j u hu
end Go.Proofs.YtdifknecndlklaaGreatDoor
namespace Go.Proofs.YtdifknecndlklaaGreatDoor
open Go Go.RowKit

/-- The value v holds the bytes l, in a block from base on. -/
abbrev OwnB (w : World) (base : Nat) (v : Value) (l : List UInt8) : Prop := w.ownsRow base U8 1 v l.length (Lib.byteCells l)

theorem OwnB.nil (w : World) (base : Nat) : OwnB w base (.slice none 0 0) [] := ⟨rfl, Or.inl ⟨rfl, rfl⟩⟩
theorem OwnB.rd {w : World} {base : Nat} {v : Value} {l : List UInt8} (h : OwnB w base v l) : Rd w v l := by
  rcases h.2 with ⟨rfl, h0⟩ | ⟨g, cap, cur, rfl, hb, hg, hn, hm, hs, ht⟩
  · exact Or.inl ⟨rfl, List.length_eq_zero_iff.1 h0⟩
  · refine Or.inr ⟨_, _, _, rfl, rfl, hn, hm, fun j u hj => ?_⟩
    rw [Lib.addr_add, cell_at hg]
    have hjl : j < l.length := (List.getElem?_eq_some_iff.1 hj).1
    have h1 : (cur.toList.take (l.length * 1))[j]? = (Lib.byteCells l)[j]? := by rw [ht]
    rw [List.getElem?_take_of_lt (by omega)] at h1
    simp only [Array.getElem?_toList] at h1
    rw [Nat.zero_add, h1]
    simp [Lib.byteCells, hj]
theorem OwnB.blk {w : World} {base : Nat} {v : Value} {l : List UInt8} (h : OwnB w base v l) : ∀ k, vblk v k → base ≤ k := by
  intro k hk
  rcases h.2 with ⟨rfl, _⟩ | ⟨g, cap, cur, rfl, hb, _⟩
  · exact hk.elim
  · generalize l.length = n at hk
    cases n with
    | zero => exact hk.elim
    | succ n => obtain rfl : g = k := hk; exact hb
theorem OwnB.own {w : World} {base : Nat} {v : Value} {l : List UInt8} (h : OwnB w base v l) : ∀ k, v.ownBlock = some k → base ≤ k := by
  intro k hk
  rcases h.2 with ⟨rfl, _⟩ | ⟨g, cap, cur, rfl, hb, _⟩
  · cases hk
  · injection hk with hk; subst hk; exact hb

/-- What grows keeps the frame. -/
theorem Fr.grown {F F' : Nat → Prop} {W w w' : World} {r : Option Nat} (h : Fr F F' W w) (g : w.grownBy w' r) (hr : ∀ k, r = some k → W.heap.size ≤ k) : Fr F F' W w' :=
  ⟨g.os.trans h.os, g.tape.trans h.tape, g.output.trans h.output, Nat.le_trans h.size g.size, fun k hk hn => (g.block k (Nat.lt_of_lt_of_le hk h.size) (fun e => by have := hr k e.symm; omega)).trans (h.keep k hk hn), h.foot⟩
theorem OwnB.snoc {w : World} {base : Nat} {v : Value} {l : List UInt8} {u : UInt8} {n : Nat} {y : Int} (h : w.ownsRow base U8 1 v n (Lib.byteCells l ++ [.int .u8 y])) (hn : n = l.length + 1) (hy : y = u.toNat) : OwnB w base v (l ++ [u]) := by
  subst hn hy
  have e : Lib.byteCells (l ++ [u]) = Lib.byteCells l ++ [.int .u8 u.toNat] := by rw [bcells_append]; rfl
  unfold OwnB
  rw [e, List.length_append]
  exact h
theorem OwnB.more {w : World} {base : Nat} {v : Value} {l m : List UInt8} {n : Nat} (h : w.ownsRow base U8 1 v n (Lib.byteCells l ++ Lib.byteCells m)) (hn : n = l.length + m.length) : OwnB w base v (l ++ m) := by
  subst hn
  unfold OwnB
  rw [bcells_append, List.length_append]
  exact h
end Go.Proofs.YtdifknecndlklaaGreatDoor
namespace Go.Proofs.YtdifknecndlklaaGreatDoor
open Go Go.RowKit

/-- What '[]byte(s)' gives, and what stands behind it. -/
def convV (w : World) (s : ByteArray) : Value := .slice (some ⟨w.heap.size, 0, none⟩) s.size (grownCap w s.size 0 U8)
def convW (w : World) (s : ByteArray) : World :=
  w.drew.alloc (.cells (bytesRow s (grownCap w s.size 0 U8)) U8 ((bytesRow s (grownCap w s.size 0 U8)).size, (bytesRow s (grownCap w s.size 0 U8)).size + 1))
theorem run_conv (s : ByteArray) (w : World) : (convert 9 24 (.string s)).run Tryz.prog w = .ok (convV w s) (convW w s) :=
  run_bytes_of_string w 9 24 U8 s Tryz.underlying9 Tryz.underlying24 Tryz.underlying5
theorem conv_fr {F F' : Nat → Prop} {W w : World} (h : Fr F F' W w) (s : ByteArray) : Fr F F' W (convW w s) := h.drew.alloc _
theorem conv_rd (w : World) (s : ByteArray) (hs : s.size ≤ maxLen) : Rd (convW w s) (convV w s) s.data.toList := by
  have hn : (convW w s).heap[w.heap.size]? = some (.cells (bytesRow s (grownCap w s.size 0 U8)) U8 ((bytesRow s (grownCap w s.size 0 U8)).size, (bytesRow s (grownCap w s.size 0 U8)).size + 1)) := alloc_new w.drew _
  refine Or.inr ⟨_, _, _, rfl, by simp, grownCap_ge _ _ _ _, grownCap_le_maxLen _ _ _ _ hs, fun j u hj => ?_⟩
  have hjl : j < s.data.size := by simpa using (List.getElem?_eq_some_iff.1 hj).1
  rw [Lib.addr_add, cell_at hn]
  unfold bytesRow
  rw [Nat.zero_add, Array.getElem?_append_left (by simpa using hjl), Array.getElem?_map]
  simp only [Array.getElem?_toList] at hj
  rw [hj]
  rfl
theorem conv_blk {w : World} {s : ByteArray} {k : Nat} (h : vblk (convV w s) k) : k = w.heap.size := by
  unfold convV at h
  generalize s.size = n at h
  cases n with
  | zero => exact h.elim
  | succ n => exact (show w.heap.size = k from h).symm
attribute [irreducible] convV convW
end Go.Proofs.YtdifknecndlklaaGreatDoor
namespace Go.Proofs.YtdifknecndlklaaGreatDoor
open Go Go.RowKit

theorem info_u8 : (Tryz.prog.info? 5).map (fun i => (i.zero, i.size, i.bytes)) = some (some (.int .u8 0), 1, 1) := by kernel_rfl
theorem size_u8 : (Tryz.prog.info? 5).map (·.size) = some 1 := by kernel_rfl

theorem growCatch (w : World) : CallsD Tryz.prog 100 #[] .returning w fun e u' w' => e = .returned (.tuple #[]) ∧ u' = .returning ∧ w' = w := by
  have hnn : ∀ w, (binOp .neq 20 .nilIface .nilIface).run Tryz.prog w = .ok (.bool false) w := fun w => Lib.run_neq_nil_nil w Tryz.underlying20
  refine callsD_of_wpS Tryz.func100 rfl fun c₀ cs hu => ?_
  apply wpS_seq
  apply wpS_region
  simp [wpOpsS, go_sem, recoverD, hu, hnn, Tryz.ntmps100, Exit.thenS]
  refine wpS_cond (t := false) (by simp [Act.eval, Array.replicate]) ?_
  simp only [Bool.false_eq_true, if_false]
  refine wpS_of_wp (wp_skip ?_)
  cases c₀
  simp_all [bodyPostS, results, Tryz.results100]

/-- The new array's length and what the append of zeros leaves. -/
theorem zerosRun (w : World) (C : Nat) (h0 : 0 < C) (hC : C ≤ 281474976710656) :
    ∃ cap2 Z, (Builtin.append_ #[24, 3] 24 #[.slice none 0 0, .int .i64 (C : Int)]).run Tryz.prog w = .ok (.slice (some ⟨w.heap.size, 0, none⟩) C cap2) ((w.alloc (.cells Z U8)).drew) ∧ Z.size = cap2 ∧ C ≤ cap2 ∧ cap2 ≤ maxLen := by
  obtain ⟨i0, hi, hz0, hz1, hz2⟩ := info_parts info_u8
  have happ := Lib.run_append_nil_zeros (P := Tryz.prog) w 24 3 24 5 i0 (.int .u8 0) .i64 .i64 Tryz.underlying24 Tryz.underlying3 hi hz0 C h0 (by omega) (by omega) (by rw [hz2]; omega)
  have hge := grownCap_ge w C 0 5
  have hle : grownCap w C 0 5 ≤ maxLen := grownCap_le_maxLen w _ 0 _ (by unfold maxLen; omega)
  exact ⟨_, _, happ, by simp [size_zeroCells, Value.cells]; omega, hge, hle⟩

/-- What growSlice leaves. -/
def GSpost (w : World) (l n : Nat) (xs : List Value) (e : Ending) (w' : World) : Prop := ∃ cap2 cells, e = .returned (.slice (some ⟨w.heap.size, 0, none⟩) l cap2) ∧ w'.heap[w.heap.size]? = some (.cells cells U8 (0, 0)) ∧
      cells.size = cap2 ∧ cells.toList.take l = xs ∧ l + n ≤ cap2 ∧ cap2 ≤ maxLen ∧ Below w.heap.size w w'

set_option maxHeartbeats 1000000 in
set_option maxRecDepth 100000 in
/-- bytes.growSlice of a slice whose cells are xs, in a row. -/
theorem growSlice_row (a : Addr) (l c n : Nat) (xs : List Value) (w : World) (hxl : xs.length = l) (hsrc : ∀ j v, xs[j]? = some v → w.cell? (a.add j) = some v) (hn : 1 ≤ n) (h1 : ∀ v ∈ xs, v.oneCell' = true)
    (hlim : l + n ≤ 140737488355328) (hc2 : c ≤ 140737488355328) (_hlc : l ≤ c) :
    Calls Tryz.prog 94 #[.slice (some a) l c, .int .i64 n] w (GSpost w l n xs) := by
  have core : ∀ C : Nat, l + n ≤ C → C ≤ 281474976710656 → (C = 2 * c ∧ l + n < 2 * c ∨ C = l + n ∧ ¬ l + n < 2 * c) →
    Calls Tryz.prog 94 #[.slice (some a) l c, .int .i64 n] w (GSpost w l n xs) := by
    intro C hC1 hC2 hcase
    obtain ⟨cap2, Z, happ, hZs, hge, hle⟩ := zerosRun w C (by omega) hC2
    have hsrc1 : ∀ j v, xs[j]? = some v → (w.alloc (.cells Z U8)).drew.cell? (a.add j) = some v := fun j v hj => by
      have h0 := hsrc j v hj
      show (w.alloc (.cells Z U8)).cell? (a.add j) = some v
      rw [World.cell?_of_block (Below.heap_alloc w _ _ (World.block_lt_of_cell? w _ h0))]; exact h0
    have hcopy := run_copy_row (P := Tryz.prog) (w.alloc (.cells Z U8)).drew 24 24 3 5 w.heap.size 0 C cap2 a l c Z U8 xs Tryz.underlying24 size_u8 (heap_alloc_new w _) (by rw [hxl]; exact (Nat.min_eq_left (by omega)).symm) hsrc1 (by rw [hxl]; omega) h1
    rw [hxl] at hcopy
    generalize hY : (Z.toList.take 0 ++ xs ++ Z.toList.drop (0 + l)).toArray = Y at hcopy
    have HY := Lib.hid hY
    have HZ := Lib.hid hZs
    have HX := Lib.hid hxl
    clear hY hZs hsrc hsrc1 hxl
    have fin : GSpost w l n xs (.returned (.slice (some ⟨w.heap.size, 0, none⟩) l cap2)) ((w.alloc (.cells Z U8)).drew.setRow w.heap.size Y) := by
      have hxl : xs.length = l := HX.out
      have hZt : Z.toList.length = cap2 := by rw [Array.length_toList]; exact HZ.out
      have hYl : Y.toList = xs ++ Z.toList.drop l := by rw [← HY.out]; simp
      refine ⟨cap2, Y, rfl, setRow_heap _ _ Z Y U8 (0, 0) (heap_alloc_new w _), ?_, ?_, by omega, hle, ?_⟩
      · have : Y.toList.length = cap2 := by rw [hYl, List.length_append, List.length_drop, hZt]; omega
        simpa using this
      · rw [hYl, List.take_append_of_le_length (by omega), List.take_of_length_le (by omega)]
      · exact ⟨rfl, rfl, rfl, by simp, fun k hk => by rw [setRow_other _ _ _ _ (by omega)]; exact Below.heap_alloc w _ k hk⟩
    have Hf := Lib.hid fin
    clear fin HY HZ HX
    rcases hcase with ⟨rfl, hC⟩ | ⟨rfl, hC⟩
    all_goals
      first | rw [show (((2 * c : Nat)) : Int) = 2 * (c : Int) by omega] at happ | rw [show (((l + n : Nat)) : Int) = (l : Int) + (n : Int) by omega] at happ
      go_enter_defers Tryz.func94, Tryz.ntmps94
      go_wp2_with (at_builtin; refine Lib.wpList_append_run _ rfl _ _ _ _ rfl _ _ rfl rfl _ _ happ ?_)
      refine leaves_cons (f := 100) (args := #[]) (by simp) (enters_of Tryz.func100 (by kernel_rfl) rfl _ _) ?_
      refine (growCatch _).mono ?_
      rintro e u' w'' ⟨rfl, rfl, rfl⟩
      refine ⟨_, results_tmp rfl _ _ _, ?_⟩
      exact Hf.out
  by_cases hC : l + n < 2 * c
  · exact core (2 * c) (by omega) (by omega) (Or.inl ⟨rfl, hC⟩)
  · exact core (l + n) (by omega) (by omega) (Or.inr ⟨rfl, hC⟩)

set_option maxHeartbeats 1000000 in
set_option maxRecDepth 100000 in
/-- bytes.growSlice of a slice without cells: nil, or empty. -/
theorem growSlice_none (a : Option Addr) (c n : Nat) (w : World) (hn : 1 ≤ n) (hlim : n ≤ 140737488355328) (hc : c ≤ 140737488355328) (ha : a = none → c = 0) :
    Calls Tryz.prog 94 #[.slice a 0 c, .int .i64 n] w (GSpost w 0 n []) := by
  cases a with
  | some a =>
    exact growSlice_row a 0 c n [] w rfl (fun j v h => by simp at h) hn (by simp) (by omega) hc (Nat.zero_le _)
  | none =>
    obtain rfl := ha rfl
    obtain ⟨cap2, Z, happ, hZs, hge, hle⟩ := zerosRun w n (by omega) (by omega)
    have hcopy := run_copy_nil (P := Tryz.prog) (w.alloc (.cells Z U8)).drew 24 24 3 5 ⟨w.heap.size, 0, none⟩ n cap2 Tryz.underlying24 (by rw [size_u8]; rfl)
    have HZ := Lib.hid hZs
    clear hZs
    go_enter_defers Tryz.func94, Tryz.ntmps94
    go_wp2_with (at_builtin; refine Lib.wpList_append_run _ rfl _ _ _ _ rfl _ _ rfl rfl _ _ happ ?_)
    refine leaves_cons (f := 100) (args := #[]) (by simp) (enters_of Tryz.func100 (by kernel_rfl) rfl _ _) ?_
    refine (growCatch _).mono ?_
    rintro e u' w'' ⟨rfl, rfl, rfl⟩
    refine ⟨_, results_tmp rfl _ _ _, ?_⟩
    exact ⟨cap2, Z, rfl, heap_alloc_new w _, HZ.out, by simp, by omega, hle, ⟨rfl, rfl, rfl, by simp, fun k hk => Below.heap_alloc w _ k hk⟩⟩

/-- tryGrowByReslice: there is room. -/
theorem tryGrow_yes (b : Nat) (a : Option Addr) (l c n : Nat) (w : World) (c0 : w.cell? ⟨b, 0, none⟩ = some (.slice a l c)) (f0 : w.frozen? ⟨b, 0, none⟩ = false) (hlc : l ≤ c) (hc : c ≤ maxLen) (hn : n ≤ c - l) :
    Calls Tryz.prog 86 #[.pointer (some ⟨b, 0, none⟩), .int .i64 n] w fun e w' => e = .returned (.tuple #[.int .i64 l, .bool true]) ∧ w' = w.setCell ⟨b, 0, none⟩ (.slice a (l + n) c) := by
  unfold maxLen at hc
  have h1 : (n : Int) ≤ (c : Int) - l := by omega
  go_enter Tryz.func86, Tryz.ntmps86
  go_wp2
  all_goals
    go_ret2
    exact ⟨rfl, rfl⟩

/-- .. and there is none. -/
theorem tryGrow_no (b : Nat) (a : Option Addr) (l c n : Nat) (w : World) (c0 : w.cell? ⟨b, 0, none⟩ = some (.slice a l c)) (hlc : l ≤ c) (hc : c ≤ maxLen) (hn : c - l < n) :
    Calls Tryz.prog 86 #[.pointer (some ⟨b, 0, none⟩), .int .i64 n] w fun e w' => e = .returned (.tuple #[.int .i64 0, .bool false]) ∧ w = w' := by
  unfold maxLen at hc
  have h1 : ¬ (n : Int) ≤ (c : Int) - l := by omega
  go_enter Tryz.func86, Tryz.ntmps86
  go_wp2
  go_ret2
  exact ⟨rfl, rfl⟩

/-- Len. -/
theorem buf_len_raw (b : Nat) (a : Option Addr) (n c o : Nat) (w : World) (c0 : w.cell? ⟨b, 0, none⟩ = some (.slice a n c)) (c1 : w.cell? ⟨b, 1, none⟩ = some (.int .i64 (o : Int))) (hon : o ≤ n) (hn : n ≤ maxLen) :
    Calls Tryz.prog 55 #[.pointer (some ⟨b, 0, none⟩)] w fun e w' => e = .returned (.int .i64 ((n - o : Nat) : Int)) ∧ ∃ q, w.drewN q = w' := by
  unfold maxLen at hn
  have e1 : ((n - o : Nat) : Int) = (n : Int) - o := by omega
  rw [e1]
  go_enter Tryz.func55, Tryz.ntmps55
  go_wp2_with fail
  go_quiet (fail)
  go_wp2
  go_ret
  exact ⟨rfl, _, rfl⟩
end Go.Proofs.YtdifknecndlklaaGreatDoor
namespace Go.Proofs.YtdifknecndlklaaGreatDoor
open Go Go.RowKit
set_option maxHeartbeats 1000000
set_option maxRecDepth 100000

/-- What is appended lies in a block of its own. -/
theorem app_cell (w : World) (v : Value) (t : TypeId) : ∀ (j : Nat) u, [v][j]? = some u → (w.alloc (.cells #[v] t (0, 0))).cell? ((⟨w.heap.size, 0, none⟩ : Addr).add j) = some u := fun j u hj => by
  match j, hj with
  | 0, hj =>
    simp at hj
    subst hj
    rw [Lib.addr_add, cell_at (alloc_new w _)]
    rfl
theorem app_one {v : Value} (h : v.oneCell' = true) : ∀ u ∈ [v], u.oneCell' = true := fun u hu => by simp at hu; subst hu; exact h
/-- New bytes. -/
def NewR (l : List UInt8) (w : World) (e : Ending) (w' : World) : Prop := ∃ v, e = .returned v ∧ OwnB w' w.heap.size v l ∧ Fr noF noF w w'

theorem conv_back {w : World} {v : Value} {l : List UInt8} (h : Rd w v l) : (convert 24 9 v).run Tryz.prog w = .ok (.string ⟨l.toArray⟩) w := by
  rcases h with ⟨rfl, rfl⟩ | ⟨a, n, c, rfl, rfl, _, _, hc⟩
  · exact Lib.run_convert_nil_bytes w _ _ _ 0 Tryz.underlying24 Tryz.underlying5 Tryz.underlying9
  · exact run_convert_bytes_back w _ _ _ a c l Tryz.underlying24 Tryz.underlying5 Tryz.underlying9 fun j hj => hc j _ (List.getElem?_eq_getElem hj)

theorem I_owned (v : Value) (l : List UInt8) (w : World) (h : Rd w v l) (hl : l.length ≤ 1000000000) : Calls Tryz.prog 89 #[v] w (NewR l w) := by
  obtain ⟨i0, hi, hz0, hz1, hz2⟩ := info_parts info_u8
  rcases h with ⟨rfl, rfl⟩ | ⟨a, n, c, rfl, hn, hc, hm, hs⟩
  · go_enter Tryz.func89, Tryz.ntmps89
    go_wp2_with (at_builtin; refine wpList_append_own_none rfl _ _ 24 rfl w.heap.size U8 i0 1 Tryz.underlying24 hi _ 0 [] rfl (OwnB.nil w _) rfl ?_)
    go_ret
    exact ⟨_, rfl, OwnB.nil _ _, Fr.refl noF w⟩
  · have HO := Lib.hid (OwnB.nil w w.heap.size)
    have HS := Lib.hid hs
    clear hs
    go_enter Tryz.func89, Tryz.ntmps89
    go_wp2_with (at_builtin; refine wpList_append_own _ rfl _ _ 24 rfl w.heap.size U8 i0 (.int .u8 0) 1 1 Tryz.underlying24 hi hz0 hz1 hz2 rfl (by decide) (.slice none 0 0) 0 [] rfl HO.out a n c (Lib.byteCells l) rfl (by rw [bcells_length]; omega) (fun j u hj => by obtain ⟨x, h1, rfl⟩ := bcells_get hj; exact HS.out j x h1) (fun u hu => by simp only [Lib.byteCells, List.mem_map] at hu; obtain ⟨x, _, rfl⟩ := hu; rfl) (by unfold maxLen; omega) (by omega) (Nat.le_refl _) ?_)
    intro v' w' hown hg _
    have HG := Lib.hid (And.intro hown hg)
    clear hown hg
    go_wp2
    go_ret
    refine ⟨_, rfl, ?_, (Fr.refl noF w).grown HG.out.2 (fun k hk => by cases hk)⟩
    have := HG.out.1
    exact OwnB.more (l := []) (m := l) this (by simp; omega)
end Go.Proofs.YtdifknecndlklaaGreatDoor
namespace Go.Proofs.YtdifknecndlklaaGreatDoor
open Go Go.RowKit

/-- Where a slice's address stands behind '[o:]'. -/
theorem Reset_raw (b : Nat) (a : Option Addr) (n c : Nat) (x y : Value) (w : World) (hb : w.heap[b]? = some (.cells #[.slice a n c, x, y] TB (0, 0))) :
    Calls Tryz.prog 66 #[.pointer (some ⟨b, 0, none⟩)] w fun e w' => e = .returned (.tuple #[]) ∧ ((w.setCell ⟨b, 0, none⟩ (.slice a 0 c)).setCell ⟨b, 1, none⟩ (.int .i64 0)).setCell ⟨b, 2, none⟩ (.int .i8 0) = w' := by
  have c0 : w.cell? ⟨b, 0, none⟩ = some (.slice a n c) := by rw [cell_at hb]; rfl
  have c1 : w.cell? ⟨b, 1, none⟩ = some x := by rw [cell_at hb]; rfl
  have c2 : w.cell? ⟨b, 2, none⟩ = some y := by rw [cell_at hb]; rfl
  have f0 := free_at hb 0
  have f1 := free_at hb 1
  have f2 := free_at hb 2
  clear hb
  go_enter Tryz.func66, Tryz.ntmps66
  go_wp2
  go_end0
  exact ⟨rfl, rfl⟩

/-- What a Reset leaves. -/
theorem Reset_heap {b : Nat} {a : Option Addr} {n c : Nat} {x y : Value} {w : World} (hb : w.heap[b]? = some (.cells #[.slice a n c, x, y] TB (0, 0))) :
    (((w.setCell ⟨b, 0, none⟩ (.slice a 0 c)).setCell ⟨b, 1, none⟩ (.int .i64 0)).setCell ⟨b, 2, none⟩ (.int .i8 0)).heap[b]? = some (.cells #[.slice a 0 c, .int .i64 0, .int .i8 0] TB (0, 0)) :=
  setCell_at (i := 2) (setCell_at (i := 1) (setCell_at (i := 0) hb _) _) _

/-- Reset: the buffer is empty. -/
theorem Buf_Reset (b T : Nat) (z : Bool) (l : List UInt8) (w : World) (h : Buf w b T z l) :
    Calls Tryz.prog 66 #[.pointer (some ⟨b, 0, none⟩)] w fun e w' => e = .returned (.tuple #[]) ∧ Buf w' b 0 true [] ∧ Fr (BF w b) (BF w' b) w w' := by
  have fr : ∀ (v0 v1 v2 : Value) , Fr (BF w b) (BF w b) w (((w.setCell ⟨b, 0, none⟩ v0).setCell ⟨b, 1, none⟩ v1).setCell ⟨b, 2, none⟩ v2) := fun v0 v1 v2 =>
    (((Fr.refl (BF w b) w).setCell (p := ⟨b, 0, none⟩) (Or.inl (Or.inl rfl)) v0).setCell (p := ⟨b, 1, none⟩) (Or.inl (Or.inl rfl)) v1).setCell (p := ⟨b, 2, none⟩) (Or.inl (Or.inl rfl)) v2
  rcases h with ⟨rfl, lr, hb⟩ | ⟨lr, r, n, c, o, cur, hb, hr, hcs, hc, hon, hnc, hT, hl, hz⟩
  · refine (Reset_raw b _ _ _ _ _ w hb).mono ?_
    rintro e w' ⟨he, rfl⟩
    have hk := Reset_heap hb
    refine ⟨he, Or.inl ⟨rfl, 0, hk⟩, (fr _ _ _).conv fun k _ hf => ?_⟩
    rcases hf with rfl | ⟨n, c, x, y, hf⟩
    · exact Or.inl rfl
    · rw [hk] at hf; simp at hf
  · refine (Reset_raw b _ _ _ _ _ w hb).mono ?_
    rintro e w' ⟨he, rfl⟩
    have hk := Reset_heap hb
    have hrb : r ≠ b := tag_ne hr hb (by decide)
    refine ⟨he, Or.inr ⟨0, r, 0, c, 0, cur, hk, setCell_ne (setCell_ne (setCell_ne hr hrb _) hrb _) hrb _, hcs, hc, Nat.le_refl _, Nat.zero_le _, Nat.zero_le _, by simp [Lib.byteCells], fun _ => rfl⟩, (fr _ _ _).conv fun k _ hf => ?_⟩
    rcases hf with rfl | ⟨n', c', x, y, hf⟩
    · exact Or.inl rfl
    · rw [hk] at hf
      simp at hf
      obtain ⟨⟨rfl, _⟩, _⟩ := hf
      exact Or.inr ⟨_, _, _, _, hb⟩

/-- Len, of a buffer. -/
theorem Buf_Len (b T : Nat) (z : Bool) (l : List UInt8) (w : World) (h : Buf w b T z l) :
    Calls Tryz.prog 55 #[.pointer (some ⟨b, 0, none⟩)] w fun e w' => e = .returned (.int .i64 (l.length : Int)) ∧ ∃ q, w.drewN q = w' := by
  rcases h with ⟨rfl, lr, hb⟩ | ⟨lr, r, n, c, o, cur, hb, hr, hcs, hc, hon, hnc, hT, hl, hz⟩
  · exact buf_len_raw b none 0 0 0 w (by rw [cell_at hb]; rfl) (by rw [cell_at hb]; rfl) (Nat.le_refl _) (Nat.zero_le _)
  · have e1 : l.length = n - o := by
      have := congrArg List.length hl
      rw [bcells_length, List.length_drop, List.length_take, Array.length_toList] at this
      omega
    rw [e1]
    exact buf_len_raw b _ n c o w (by rw [cell_at hb]; rfl) (by rw [cell_at hb]; rfl) hon (Nat.le_trans hnc hc)

/-- The outcome of grow: where to write, and the buffer with room there. -/
def Grown1 (w : World) (b T : Nat) (l : List UInt8) (k : Nat) (e : Ending) (w' : World) : Prop :=
  ∃ i, e = .returned (.int .i64 ((i : Nat) : Int)) ∧ Room w' b (T + k) true l i k ∧ Fr (BF w b) (BF w' b) w w'

theorem BF_row {w : World} {b r n c : Nat} {x y : Value} (hb : w.heap[b]? = some (.cells #[.slice (some ⟨r, 0, none⟩) n c, x, y] TB (0, 0))) : BF w b r := Or.inr ⟨_, _, _, _, hb⟩
theorem BF_of {w : World} {b r n c : Nat} {x y : Value} (hb : w.heap[b]? = some (.cells #[.slice (some ⟨r, 0, none⟩) n c, x, y] TB (0, 0))) {k : Nat} (hk : BF w b k) : k = b ∨ k = r := by
  rcases hk with rfl | ⟨n', c', x', y', hk⟩
  · exact Or.inl rfl
  · rw [hb] at hk; simp at hk; obtain ⟨⟨rfl, _⟩, _⟩ := hk; exact Or.inr rfl
theorem BF_nil {w : World} {b : Nat} {x y : Value} (hb : w.heap[b]? = some (.cells #[.slice none 0 0, x, y] TB (0, 0))) {k : Nat} (hk : BF w b k) : k = b := by
  rcases hk with rfl | ⟨n', c', x', y', hk⟩
  · rfl
  · rw [hb] at hk; simp at hk
end Go.Proofs.YtdifknecndlklaaGreatDoor
namespace Go.Proofs.YtdifknecndlklaaGreatDoor
open Go Go.RowKit

theorem drewN_heap (w : World) (q : Nat) : (w.drewN q).heap = w.heap := rfl

/-- What a grow into a new array leaves. -/
theorem grown_new {w W : World} {b T r0 m k cap2 : Nat} {l : List UInt8} {lr : Int} {v0 x : Value} {cells : Array Value} (hW : Fr (BF w b) (BF w b) w W) (hbB : w.heap[b]? = some (.cells #[v0, x, .int .i8 lr] TB (0, 0)))
    {x' : Value} (hb : W.heap[b]? = some (.cells #[v0, x', .int .i8 lr] TB (0, 0))) (hr : W.heap[r0]? = some (.cells cells U8 (0, 0))) (hnew : w.heap.size ≤ r0) (hcs : cells.size = cap2) (_hm : l.length = m) (htk : cells.toList.take m = Lib.byteCells l)
    (hk : m + k ≤ cap2) (hc : cap2 ≤ maxLen) (hT : m ≤ T) (v1 : Value) :
    Room (((W.setCell ⟨b, 0, none⟩ v1).setCell ⟨b, 1, none⟩ (.int .i64 0)).setCell ⟨b, 0, none⟩ (.slice (some ⟨r0, 0, none⟩) (m + k) cap2)) b (T + k) true l m k ∧
      Fr (BF w b) (BF (((W.setCell ⟨b, 0, none⟩ v1).setCell ⟨b, 1, none⟩ (.int .i64 0)).setCell ⟨b, 0, none⟩ (.slice (some ⟨r0, 0, none⟩) (m + k) cap2)) b) w (((W.setCell ⟨b, 0, none⟩ v1).setCell ⟨b, 1, none⟩ (.int .i64 0)).setCell ⟨b, 0, none⟩ (.slice (some ⟨r0, 0, none⟩) (m + k) cap2)) := by
  have hrb : r0 ≠ b := tag_ne hr hb (by decide)
  have hb' : (((W.setCell ⟨b, 0, none⟩ v1).setCell ⟨b, 1, none⟩ (.int .i64 0)).setCell ⟨b, 0, none⟩ (.slice (some ⟨r0, 0, none⟩) (m + k) cap2)).heap[b]? = some (.cells #[.slice (some ⟨r0, 0, none⟩) (m + k) cap2, .int .i64 ((0 : Nat) : Int), .int .i8 lr] TB (0, 0)) :=
    setCell_at (i := 0) (setCell_at (i := 1) (setCell_at (i := 0) hb _) _) _
  have hr' := setCell_ne (i := 0) (setCell_ne (i := 1) (setCell_ne (i := 0) hr hrb v1) hrb (.int .i64 0)) hrb (.slice (some ⟨r0, 0, none⟩) (m + k) cap2)
  refine ⟨⟨lr, r0, cap2, 0, cells, hb', hr', hcs, hc, Nat.zero_le _, hk, by omega, by simpa using htk, fun _ => rfl⟩, ?_⟩
  refine (((hW.setCell (p := ⟨b, 0, none⟩) (Or.inl (Or.inl rfl)) _).setCell (p := ⟨b, 1, none⟩) (Or.inl (Or.inl rfl)) _).setCell (p := ⟨b, 0, none⟩) (Or.inl (Or.inl rfl)) _).conv fun k' hk' hf => ?_
  rcases BF_of hb' hf with rfl | rfl
  · exact Or.inl rfl
  · omega

set_option maxHeartbeats 1000000 in
set_option maxRecDepth 100000 in
/-- grow of a nil buffer, at most 64. -/
theorem grow_nil_small (b T k : Nat) (lr : Int) (w : World) (hb : w.heap[b]? = some (.cells #[.slice none 0 0, .int .i64 0, .int .i8 lr] TB (0, 0))) (hk : 1 ≤ k) (h64 : k ≤ 64) :
    Calls Tryz.prog 87 #[.pointer (some ⟨b, 0, none⟩), .int .i64 k] w (Grown1 w b T [] k) := by
  obtain ⟨i0, hi, hz0, hz1, hz2⟩ := info_parts info_u8
  obtain ⟨M, hM⟩ : ∃ M, M = madeCells (Value.int .u8 0).cells ((64 : Int).toNat * i0.size) := ⟨_, rfl⟩
  have hMs : M.size = 64 := by rw [hM, size_madeCells, hz1]; rfl
  have hmk : ∀ W : World, (Instr.makeSlice 24 (.int .i64 (k : Int)) (.int .i64 64)).run Tryz.prog W = .ok (.slice (some ⟨W.heap.size, 0, none⟩) k 64) (W.alloc (.cells M 5)) := fun W => by
    have h := run_makeSlice (P := Tryz.prog) W 24 5 i0 (.int .u8 0) Tryz.underlying24 hi hz0 .i64 .i64 (k : Int) 64 (by omega) (by omega) (by rw [hz1]; decide) (by rw [hz2]; decide) (by decide)
    rw [← hM] at h
    simpa using h
  clear hM hi hz0 hz1 hz2
  have hnil : ∀ W, (binOp .eql 24 (.slice none 0 0) (.slice none 0 0)).run Tryz.prog W = .ok (.bool true) W := fun W => Lib.run_eql_slice_nil_nil W _ _ Tryz.underlying24
  have hlt := lt_heap hb
  go_enter Tryz.func87, Tryz.ntmps87
  go_wp2_with (go_at_call 55; refine (Buf_Len b 0 true [] _ (Or.inl ⟨rfl, lr, hb⟩)).mono ?_)
  rintro e W0 ⟨rfl, q, hW0⟩
  have hb0 : W0.heap[b]? = some (.cells #[.slice none 0 0, .int .i64 0, .int .i8 lr] TB (0, 0)) := by rw [← hW0]; exact hb
  have c0 : W0.cell? ⟨b, 0, none⟩ = some (.slice none 0 0) := by rw [cell_at hb0]; rfl
  have c1 : W0.cell? ⟨b, 1, none⟩ = some (.int .i64 0) := by rw [cell_at hb0]; rfl
  have f0 : W0.frozen? ⟨b, 0, none⟩ = false := free_at hb0 0
  have f1 : W0.frozen? ⟨b, 1, none⟩ = false := free_at hb0 1
  have c0a : ∀ o, (W0.alloc o).cell? ⟨b, 0, none⟩ = some (.slice none 0 0) := fun o => (World.cell?_of_block (a := ⟨b, 0, none⟩) (Below.heap_alloc W0 o b (lt_heap hb0))).trans c0
  have f0a : ∀ o, (W0.alloc o).frozen? ⟨b, 0, none⟩ = false := fun o => (World.frozen?_of_block (a := ⟨b, 0, none⟩) (Below.heap_alloc W0 o b (lt_heap hb0))).trans f0
  have HW := Lib.hid hW0
  clear hW0
  go_wp2_with (go_at_call 86; refine (tryGrow_no b none 0 0 k _ c0 (Nat.le_refl _) (Nat.zero_le _) (by omega)).mono ?_; rintro e w' ⟨rfl, rfl⟩)
  go_ret
  have hsz : W0.heap.size = w.heap.size := by rw [← HW.out]; rfl
  have hNb : W0.heap.size ≠ b := by omega
  have hb1 := setCell_at (i := 0) (alloc_at (o := .cells M U8) hb0) (.slice (some ⟨W0.heap.size, 0, none⟩) k 64)
  have hr1 := setCell_ne (b := b) (i := 0) (alloc_new W0 (.cells M U8)) hNb (.slice (some ⟨W0.heap.size, 0, none⟩) k 64)
  have hfr : Fr (BF w b) (BF w b) w W0 := by rw [← HW.out]; exact (Fr.refl _ _).drewN q
  refine ⟨0, rfl, ⟨lr, W0.heap.size, 64, 0, M, by rw [Nat.zero_add]; exact hb1, hr1, hMs, by unfold maxLen; omega, Nat.le_refl _, by omega, by omega, by simp [Lib.byteCells], fun _ => rfl⟩, ((hfr.alloc _).setCell (p := ⟨b, 0, none⟩) (Or.inl (Or.inl rfl)) _).conv fun k' hk' hf => ?_⟩
  rcases BF_of hb1 hf with rfl | rfl
  · exact Or.inl rfl
  · omega

set_option maxHeartbeats 2000000 in
set_option maxRecDepth 100000 in
/-- grow of a nil buffer, above 64. -/
theorem grow_nil_big (b T k : Nat) (lr : Int) (w : World) (hb : w.heap[b]? = some (.cells #[.slice none 0 0, .int .i64 0, .int .i8 lr] TB (0, 0))) (h64 : 64 < k) (hlim : k ≤ 140737488355328) :
    Calls Tryz.prog 87 #[.pointer (some ⟨b, 0, none⟩), .int .i64 k] w (Grown1 w b T [] k) := by
  have hnil : ∀ W, (binOp .eql 24 (.slice none 0 0) (.slice none 0 0)).run Tryz.prog W = .ok (.bool true) W := fun W => Lib.run_eql_slice_nil_nil W _ _ Tryz.underlying24
  have hlt := lt_heap hb
  have hn : 1 ≤ k := by omega
  go_enter Tryz.func87, Tryz.ntmps87
  go_wp2_with (go_at_call 55; refine (Buf_Len b 0 true [] _ (Or.inl ⟨rfl, lr, hb⟩)).mono ?_)
  rintro e W0 ⟨rfl, q, hW0⟩
  have hb0 : W0.heap[b]? = some (.cells #[.slice none 0 0, .int .i64 0, .int .i8 lr] TB (0, 0)) := by rw [← hW0]; exact hb
  have c0 : W0.cell? ⟨b, 0, none⟩ = some (.slice none 0 0) := by rw [cell_at hb0]; rfl
  have c1 : W0.cell? ⟨b, 1, none⟩ = some (.int .i64 0) := by rw [cell_at hb0]; rfl
  have f0 : W0.frozen? ⟨b, 0, none⟩ = false := free_at hb0 0
  have f1 : W0.frozen? ⟨b, 1, none⟩ = false := free_at hb0 1
  have HW := Lib.hid hW0
  clear hW0
  go_wp2_with (go_at_call 86; refine (tryGrow_no b none 0 0 k _ c0 (Nat.le_refl _) (Nat.zero_le _) (by omega)).mono ?_; rintro e w' ⟨rfl, rfl⟩)
  have hbW := lt_heap hb0
  have hwn : IntKind.i64.wrap (k : Int) = k := by rw [IntKind.wrap_i64]; omega
  go_region_with (
      go_at_call 94
      refine (growSlice_none none 0 k _ hn hlim (Nat.zero_le _) (fun _ => rfl)).mono ?_
      rintro e w2 ⟨cap2, cells, rfl, hN, hcsz, htk, hcap2, hcm2, hbel⟩
      have hbk2 : w2.heap[b]? = some (.cells #[.slice none 0 0, .int .i64 0, .int .i8 lr] TB (0, 0)) := (hbel.block b hbW).trans hb0
      have d0 : w2.cell? ⟨b, 0, none⟩ = some (.slice none 0 0) := by rw [Lib.cell_of_heap hbk2]; rfl
      have d1 : w2.cell? ⟨b, 1, none⟩ = some (.int .i64 0) := by rw [Lib.cell_of_heap hbk2]; rfl
      have e0 : w2.frozen? ⟨b, 0, none⟩ = false := Lib.frozen_of_heap hbk2 0
      have e1 : w2.frozen? ⟨b, 1, none⟩ = false := Lib.frozen_of_heap hbk2 1)
  all_goals
    go_wp2
    go_ret
    have hsz : W0.heap.size = w.heap.size := by rw [← HW.out]; rfl
    have hfr : Fr (BF w b) (BF w b) w w2 := by
      have h0 : Fr (BF w b) (BF w b) w W0 := by rw [← HW.out]; exact (Fr.refl _ _).drewN q
      exact h0.drew.trans (Fr.of_below hbel)
    have hfin := grown_new (l := []) (m := 0) (k := k) (T := T) hfr hb hbk2 hN (by show w.heap.size ≤ W0.heap.size; omega) hcsz rfl (by simp [Lib.byteCells]) (by omega) hcm2 (Nat.zero_le _) (.slice (some ⟨W0.heap.size, 0, none⟩) 0 cap2)
    rw [Nat.zero_add] at hfin
    exact ⟨0, rfl, hfin.1, hfin.2⟩
end Go.Proofs.YtdifknecndlklaaGreatDoor
namespace Go.Proofs.YtdifknecndlklaaGreatDoor
open Go Go.RowKit

/-- A slice of a row from place o on. -/
theorem slice_from (r n c o : Nat) (W : World) (hon : o ≤ n) (_hnc : n ≤ c) (hco : ¬ c = o ∨ o = 0) (_hcm : c ≤ maxLen) :
    (Instr.slice 24 (.slice (some ⟨r, 0, none⟩) n c) (some (.int .i64 (o : Int))) none none).run Tryz.prog W = .ok (.slice (some ⟨r, o, none⟩) (n - o) (c - o)) W := by
  have h := run_slice_l (P := Tryz.prog) W 24 (some ⟨r, 0, none⟩) n c (by kernel_rfl) .i64 (o : Int) (by omega) (by omega)
  have hz : (sizeOf (Tryz.prog.elem 24)).run Tryz.prog W = .ok 1 W := by kernel_rfl
  rw [hz] at h
  rw [h]
  rcases hco with hco | rfl
  · simp [Result.andThen, sliced, hco]
    by_cases h0 : o = 0
    · subst h0; simp [Addr.add]
    · simp [Addr.add, h0]
  · simp [Result.andThen, sliced, Addr.add]

theorem bcells_one {l : List UInt8} : ∀ v ∈ Lib.byteCells l, v.oneCell' = true := Lib.byteCells_one l

/-- The unread cells, where they lie. -/
theorem unread_cells {w : World} {r n o : Nat} {cur : Array Value} {l : List UInt8} (hr : w.heap[r]? = some (.cells cur U8 (0, 0))) (hl : (cur.toList.take n).drop o = Lib.byteCells l) :
    ∀ j v, (Lib.byteCells l)[j]? = some v → w.cell? ((⟨r, o, none⟩ : Addr).add j) = some v := by
  intro j v hj
  rw [← hl, List.getElem?_drop, List.getElem?_take] at hj
  rw [Lib.addr_add, cell_at hr]
  split at hj
  · simpa using hj
  · cases hj

set_option maxHeartbeats 2000000 in
set_option maxRecDepth 100000 in
/-- grow: a new array, of a buffer of which nothing has been read. -/
theorem grow_row_some (b T k r n c : Nat) (l : List UInt8) (lr : Int) (cur : Array Value) (w : World) (hb : w.heap[b]? = some (.cells #[.slice (some ⟨r, 0, none⟩) n c, .int .i64 0, .int .i8 lr] TB (0, 0))) (hr : w.heap[r]? = some (.cells cur U8 (0, 0)))
    (hcs : cur.size = c) (hnc : n ≤ c) (hT : n ≤ T) (hl : (cur.toList.take n).drop 0 = Lib.byteCells l) (hno : c - n < k) (hlim : n + k ≤ 70368744177664)(hz : ((n : Int) == 0) = false) :
    Calls Tryz.prog 87 #[.pointer (some ⟨b, 0, none⟩), .int .i64 k] w (Grown1 w b T l k) := by
  have hnil : ∀ W, (binOp .eql 24 (.slice (some ⟨r, 0, none⟩) n c) (.slice none 0 0)).run Tryz.prog W = .ok (.bool false) W := fun W => Lib.run_eql_slice_some_nil W _ _ _ Tryz.underlying24
  have hm : l.length = n := by
    have := congrArg List.length hl
    rw [bcells_length, List.length_drop, List.length_take, Array.length_toList] at this
    omega
  have hwn : IntKind.i64.wrap (k : Int) = (k : Int) := by rw [IntKind.wrap_i64]; omega
  have hbig : (c : Int) / 2 - ((n : Nat) : Int) < (k : Int) := by omega
  have hcm : c ≤ maxLen := by unfold maxLen; omega
  have hfin : ∀ (W0 w2 : World) (cap2 : Nat) (cells : Array Value), (∃ q, w.drewN q = W0) → W0.drew.heap.size ≤ w2.heap.size → w2.heap[W0.heap.size]? = some (.cells cells U8 (0, 0)) → cells.size = cap2 → cells.toList.take n = Lib.byteCells l → n + k ≤ cap2 → cap2 ≤ maxLen → Below W0.drew.heap.size W0.drew w2 →
      Grown1 w b T l k (.returned (.int .i64 ((n : Nat) : Int))) (((w2.setCell ⟨b, 0, none⟩ (.slice (some ⟨W0.heap.size, 0, none⟩) n cap2)).setCell ⟨b, 1, none⟩ (.int .i64 0)).setCell ⟨b, 0, none⟩ (.slice (some ⟨W0.heap.size, 0, none⟩) (n + k) cap2)) := by
    rintro W0 w2 cap2 cells ⟨q, rfl⟩ hsz hN hcsz htk hcap2 hcm2 hbel
    have hfr : Fr (BF w b) (BF w b) w w2 := ((Fr.refl (BF w b) w).drewN q).drew.trans (Fr.of_below hbel)
    have hb2 : w2.heap[b]? = some (.cells #[.slice (some ⟨r, 0, none⟩) n c, .int .i64 0, .int .i8 lr] TB (0, 0)) := (hbel.block b (lt_heap hb)).trans hb
    have h := grown_new (l := l) (m := n) (k := k) (T := T) hfr hb hb2 hN (Nat.le_refl _) hcsz hm htk (by omega) hcm2 (by omega) (.slice (some ⟨w.heap.size, 0, none⟩) n cap2)
    exact ⟨n, rfl, h.1, h.2⟩
  try simp only [Int.natCast_zero, Nat.zero_add] at hfin hbig
  have HFin := Lib.hid hfin
  have HL := Lib.hid hl
  have HS := Lib.hid hcs
  have HM := Lib.hid hm
  clear hfin hl hcs hm
  have hsl := fun W => slice_from r n c 0 W (Nat.zero_le _) hnc (Or.inr rfl) hcm
  simp only [Nat.sub_zero, Int.natCast_zero] at hsl
  go_enter Tryz.func87, Tryz.ntmps87
  go_wp2_with (go_at_call 55; refine (buf_len_raw b _ n c 0 _ (by rw [cell_at hb]; rfl) (by rw [cell_at hb]; rfl) (Nat.zero_le _) (Nat.le_trans hnc hcm)).mono ?_)
  rintro e W0 ⟨rfl, q, hW0⟩
  simp only [Nat.sub_zero]
  have hb0 : W0.heap[b]? = some (.cells #[.slice (some ⟨r, 0, none⟩) n c, .int .i64 0, .int .i8 lr] TB (0, 0)) := by rw [← hW0]; exact hb
  have hr0 : W0.heap[r]? = some (.cells cur U8 (0, 0)) := by rw [← hW0]; exact hr
  have c0 : W0.cell? ⟨b, 0, none⟩ = some (.slice (some ⟨r, 0, none⟩) n c) := by rw [cell_at hb0]; rfl
  have c1 : W0.cell? ⟨b, 1, none⟩ = some (.int .i64 0) := by rw [cell_at hb0]; rfl
  have f0 : W0.frozen? ⟨b, 0, none⟩ = false := free_at hb0 0
  have f1 : W0.frozen? ⟨b, 1, none⟩ = false := free_at hb0 1
  have HW := Lib.hid (⟨q, hW0⟩ : ∃ q, w.drewN q = W0)
  clear hW0
  go_wp2_with (go_at_call 86; refine (tryGrow_no b _ n c k _ c0 hnc hcm hno).mono ?_; rintro e w' ⟨rfl, rfl⟩)
  have hr1 : ∀ j v, (Lib.byteCells l)[j]? = some v → W0.drew.cell? ((⟨r, 0, none⟩ : Addr).add j) = some v := unread_cells (w := W0.drew) hr0 HL.out
  have HX := Lib.hid (show (Lib.byteCells l).length = n by rw [bcells_length]; exact HM.out)
  have HR := Lib.hid hr1
  have HW2 := Lib.hid hb0
  clear hr1 hr0
  go_region_with (
    go_at_call 94
    refine (growSlice_row ⟨r, 0, none⟩ n c k (Lib.byteCells l) _ HX.out ?_ (by omega) (Lib.byteCells_one l) (by omega) (by omega) (by omega)).mono ?_
    exact HR.out
    rintro e w2 ⟨cap2, cells, rfl, hN, hcsz, htk, hcap2, hcm2, hbel⟩
    have hbk2 : w2.heap[b]? = some (.cells #[.slice (some ⟨r, 0, none⟩) n c, .int .i64 0, .int .i8 lr] TB (0, 0)) := (hbel.block b (lt_heap HW2.out)).trans HW2.out
    have d0 : w2.cell? ⟨b, 0, none⟩ = some (.slice (some ⟨r, 0, none⟩) n c) := by rw [Lib.cell_of_heap hbk2]; rfl
    have d1 : w2.cell? ⟨b, 1, none⟩ = some (.int .i64 0) := by rw [Lib.cell_of_heap hbk2]; rfl
    have e0 : w2.frozen? ⟨b, 0, none⟩ = false := Lib.frozen_of_heap hbk2 0
    have e1 : w2.frozen? ⟨b, 1, none⟩ = false := Lib.frozen_of_heap hbk2 1)
  all_goals
    go_wp2
    go_ret
    exact HFin.out W0 w2 cap2 cells HW.out hbel.size hN hcsz htk (by omega) hcm2 hbel
set_option maxHeartbeats 2000000 in
set_option maxRecDepth 100000 in
/-- grow: a new array, of a buffer of which nothing has been read. -/
theorem grow_row_none (b T k r  c : Nat) (l : List UInt8) (lr : Int) (cur : Array Value) (w : World) (hb : w.heap[b]? = some (.cells #[.slice (some ⟨r, 0, none⟩) 0 c, .int .i64 0, .int .i8 lr] TB (0, 0))) (hr : w.heap[r]? = some (.cells cur U8 (0, 0)))
    (hcs : cur.size = c) (hnc : 0 ≤ c) (hT : 0 ≤ T) (hl : (cur.toList.take 0).drop 0 = Lib.byteCells l) (hno : c - 0 < k) (hlim : 0 + k ≤ 70368744177664) :
    Calls Tryz.prog 87 #[.pointer (some ⟨b, 0, none⟩), .int .i64 k] w (Grown1 w b T l k) := by
  have hnil : ∀ W, (binOp .eql 24 (.slice (some ⟨r, 0, none⟩) 0 c) (.slice none 0 0)).run Tryz.prog W = .ok (.bool false) W := fun W => Lib.run_eql_slice_some_nil W _ _ _ Tryz.underlying24
  have hm : l.length = 0 := by
    have := congrArg List.length hl
    rw [bcells_length, List.length_drop, List.length_take, Array.length_toList] at this
    omega
  have hwn : IntKind.i64.wrap (k : Int) = (k : Int) := by rw [IntKind.wrap_i64]; omega
  have hbig : (c : Int) / 2 - ((0 : Nat) : Int) < (k : Int) := by omega
  have hcm : c ≤ maxLen := by unfold maxLen; omega
  have hfin : ∀ (W0 w2 : World) (cap2 : Nat) (cells : Array Value), (∃ q, w.drewN q = W0) → W0.drew.heap.size ≤ w2.heap.size → w2.heap[W0.heap.size]? = some (.cells cells U8 (0, 0)) → cells.size = cap2 → cells.toList.take 0 = Lib.byteCells l → 0 + k ≤ cap2 → cap2 ≤ maxLen → Below W0.drew.heap.size W0.drew w2 →
      Grown1 w b T l k (.returned (.int .i64 ((0 : Nat) : Int))) (((w2.setCell ⟨b, 0, none⟩ (.slice (some ⟨W0.heap.size, 0, none⟩) 0 cap2)).setCell ⟨b, 1, none⟩ (.int .i64 0)).setCell ⟨b, 0, none⟩ (.slice (some ⟨W0.heap.size, 0, none⟩) (0 + k) cap2)) := by
    rintro W0 w2 cap2 cells ⟨q, rfl⟩ hsz hN hcsz htk hcap2 hcm2 hbel
    have hfr : Fr (BF w b) (BF w b) w w2 := ((Fr.refl (BF w b) w).drewN q).drew.trans (Fr.of_below hbel)
    have hb2 : w2.heap[b]? = some (.cells #[.slice (some ⟨r, 0, none⟩) 0 c, .int .i64 0, .int .i8 lr] TB (0, 0)) := (hbel.block b (lt_heap hb)).trans hb
    have h := grown_new (l := l) (m := 0) (k := k) (T := T) hfr hb hb2 hN (Nat.le_refl _) hcsz hm htk (by omega) hcm2 (by omega) (.slice (some ⟨w.heap.size, 0, none⟩) 0 cap2)
    exact ⟨0, rfl, h.1, h.2⟩
  try simp only [Int.natCast_zero, Nat.zero_add] at hfin hbig
  have HFin := Lib.hid hfin
  have HL := Lib.hid hl
  have HS := Lib.hid hcs
  have HM := Lib.hid hm
  clear hfin hl hcs hm
  have hsl := fun W => slice_from r 0 c 0 W (Nat.zero_le _) hnc (Or.inr rfl) hcm
  simp only [Nat.sub_zero, Int.natCast_zero] at hsl
  go_enter Tryz.func87, Tryz.ntmps87
  go_wp2_with (go_at_call 55; refine (buf_len_raw b _ 0 c 0 _ (by rw [cell_at hb]; rfl) (by rw [cell_at hb]; rfl) (Nat.zero_le _) (Nat.le_trans hnc hcm)).mono ?_)
  rintro e W0 ⟨rfl, q, hW0⟩
  simp only [Nat.sub_zero, Int.natCast_zero]
  have hb0 : W0.heap[b]? = some (.cells #[.slice (some ⟨r, 0, none⟩) 0 c, .int .i64 0, .int .i8 lr] TB (0, 0)) := by rw [← hW0]; exact hb
  have hr0 : W0.heap[r]? = some (.cells cur U8 (0, 0)) := by rw [← hW0]; exact hr
  have c0 : W0.cell? ⟨b, 0, none⟩ = some (.slice (some ⟨r, 0, none⟩) 0 c) := by rw [cell_at hb0]; rfl
  have c1 : W0.cell? ⟨b, 1, none⟩ = some (.int .i64 0) := by rw [cell_at hb0]; rfl
  have f0 : W0.frozen? ⟨b, 0, none⟩ = false := free_at hb0 0
  have f1 : W0.frozen? ⟨b, 1, none⟩ = false := free_at hb0 1
  have HW := Lib.hid (⟨q, hW0⟩ : ∃ q, w.drewN q = W0)
  clear hW0
  go_wp2_with (go_at_call 86; refine (tryGrow_no b _ 0 c k _ c0 hnc hcm hno).mono ?_; rintro e w' ⟨rfl, rfl⟩)
  have hr1 : ∀ j v, (Lib.byteCells l)[j]? = some v → W0.drew.cell? ((⟨r, 0, none⟩ : Addr).add j) = some v := unread_cells (w := W0.drew) hr0 HL.out
  have HX := Lib.hid (show (Lib.byteCells l).length = 0 by rw [bcells_length]; exact HM.out)
  have HR := Lib.hid hr1
  have HW2 := Lib.hid hb0
  clear hr1 hr0
  go_region_with (
    go_at_call 94
    refine (growSlice_row ⟨r, 0, none⟩ 0 c k (Lib.byteCells l) _ HX.out ?_ (by omega) (Lib.byteCells_one l) (by omega) (by omega) (by omega)).mono ?_
    exact HR.out
    rintro e w2 ⟨cap2, cells, rfl, hN, hcsz, htk, hcap2, hcm2, hbel⟩
    have hbk2 : w2.heap[b]? = some (.cells #[.slice (some ⟨r, 0, none⟩) 0 c, .int .i64 0, .int .i8 lr] TB (0, 0)) := (hbel.block b (lt_heap HW2.out)).trans HW2.out
    have d0 : w2.cell? ⟨b, 0, none⟩ = some (.slice (some ⟨r, 0, none⟩) 0 c) := by rw [Lib.cell_of_heap hbk2]; rfl
    have d1 : w2.cell? ⟨b, 1, none⟩ = some (.int .i64 0) := by rw [Lib.cell_of_heap hbk2]; rfl
    have e0 : w2.frozen? ⟨b, 0, none⟩ = false := Lib.frozen_of_heap hbk2 0
    have e1 : w2.frozen? ⟨b, 1, none⟩ = false := Lib.frozen_of_heap hbk2 1)
  all_goals
    go_wp2
    go_ret
    exact HFin.out W0 w2 cap2 cells HW.out hbel.size hN hcsz htk (by omega) hcm2 hbel
end Go.Proofs.YtdifknecndlklaaGreatDoor
namespace Go.Proofs.YtdifknecndlklaaGreatDoor
open Go Go.RowKit

/-- The size that a buffer may come to here. -/
def LIM : Nat := 17592186044416

/-- grow, of a buffer without room. -/
theorem Buf_grow (b T k : Nat) (l : List UInt8) (w : World) (h : Buf w b T true l) (hno : Lib.NoRoom b k w) (hlim : T + k ≤ LIM) :
    Calls Tryz.prog 87 #[.pointer (some ⟨b, 0, none⟩), .int .i64 k] w (Grown1 w b T l k) := by
  unfold LIM at hlim
  obtain ⟨ao, n', c', hc0, hroom⟩ := hno
  rcases h with ⟨rfl, lr, hb⟩ | ⟨lr, r, n, c, o, cur, hb, hr, hcs, hc, hon, hnc, hT, hl, hz⟩
  · rw [cell_at hb] at hc0
    simp at hc0
    obtain ⟨rfl, rfl, rfl⟩ := hc0
    by_cases h64 : k ≤ 64
    · exact grow_nil_small b T k lr w hb (by omega) h64
    · exact grow_nil_big b T k lr w hb (by omega) (by omega)
  · obtain rfl := hz rfl
    rw [cell_at hb] at hc0
    simp at hc0
    obtain ⟨rfl, rfl, rfl⟩ := hc0
    by_cases hn : n = 0
    · subst hn
      exact grow_row_none b T k r c l lr cur w hb hr hcs hnc hT hl hroom (by omega)
    · exact grow_row_some b T k r n c l lr cur w hb hr hcs hnc hT hl hroom (by omega) (by rw [beq_eq_false_iff_ne]; omega)

/-- The outcome of tryGrowByReslice. -/
def Tried (w : World) (b T : Nat) (l : List UInt8) (k : Nat) (e : Ending) (w' : World) : Prop :=
  (∃ i, e = .returned (.tuple #[.int .i64 ((i : Nat) : Int), .bool true]) ∧ Room w' b (T + k) true l i k ∧ Fr (BF w b) (BF w' b) w w') ∨
  (e = .returned (.tuple #[.int .i64 0, .bool false]) ∧ w' = w ∧ Lib.NoRoom b k w)

/-- tryGrowByReslice of a buffer that has a row, or at least one byte to write. -/
theorem Buf_try (b T k : Nat) (l : List UInt8) (w : World) (h : Buf w b T true l) (hk : 1 ≤ k) :
    Calls Tryz.prog 86 #[.pointer (some ⟨b, 0, none⟩), .int .i64 k] w (Tried w b T l k) := by
  rcases h with ⟨rfl, lr, hb⟩ | ⟨lr, r, n, c, o, cur, hb, hr, hcs, hc, hon, hnc, hT, hl, hz⟩
  · refine (tryGrow_no b none 0 0 k w (by rw [cell_at hb]; rfl) (Nat.le_refl _) (Nat.zero_le _) (by omega)).mono ?_
    rintro e w' ⟨he, rfl⟩
    exact Or.inr ⟨he, rfl, _, _, _, by rw [cell_at hb]; rfl, by omega⟩
  · obtain rfl := hz rfl
    by_cases hroom : k ≤ c - n
    · refine (tryGrow_yes b _ n c k w (by rw [cell_at hb]; rfl) (free_at hb 0) hnc hc hroom).mono ?_
      rintro e w' ⟨he, rfl⟩
      have hb' := setCell_at (i := 0) hb (.slice (some ⟨r, 0, none⟩) (n + k) c)
      have hrb : r ≠ b := tag_ne hr hb (by decide)
      refine Or.inl ⟨n, he, ⟨lr, r, c, 0, cur, hb', setCell_ne hr hrb _, hcs, hc, Nat.zero_le _, by omega, by omega, hl, fun _ => rfl⟩, ?_⟩
      refine ((Fr.refl (BF w b) w).setCell (p := ⟨b, 0, none⟩) (Or.inl (Or.inl rfl)) _).conv fun k' _ hf => ?_
      rcases BF_of hb' hf with rfl | rfl
      · exact Or.inl rfl
      · exact BF_row hb
    · refine (tryGrow_no b _ n c k w (by rw [cell_at hb]; rfl) hnc hc (by omega)).mono ?_
      rintro e w' ⟨he, rfl⟩
      exact Or.inr ⟨he, rfl, _, _, _, by rw [cell_at hb]; rfl, by omega⟩

/-- 'b.lastRead = opInvalid'. -/
theorem Buf.setLast {w : World} {b T : Nat} {z : Bool} {l : List UInt8} (h : Buf w b T z l) (x : Int) : Buf (w.setCell ⟨b, 2, none⟩ (.int .i8 x)) b T z l ∧ Fr (BF w b) (BF (w.setCell ⟨b, 2, none⟩ (.int .i8 x)) b) w (w.setCell ⟨b, 2, none⟩ (.int .i8 x)) := by
  have fr : Fr (BF w b) (BF w b) w (w.setCell ⟨b, 2, none⟩ (.int .i8 x)) := (Fr.refl (BF w b) w).setCell (p := ⟨b, 2, none⟩) (Or.inl (Or.inl rfl)) _
  rcases h with ⟨rfl, lr, hb⟩ | ⟨lr, r, n, c, o, cur, hb, hr, hcs, hc, hon, hnc, hT, hl, hz⟩
  · have hb' := setCell_at (i := 2) hb (.int .i8 x)
    exact ⟨Or.inl ⟨rfl, x, hb'⟩, fr.conv fun k _ hf => Or.inl (BF_nil hb' hf)⟩
  · have hb' := setCell_at (i := 2) hb (.int .i8 x)
    have hrb : r ≠ b := tag_ne hr hb (by decide)
    refine ⟨Or.inr ⟨x, r, n, c, o, cur, hb', setCell_ne hr hrb _, hcs, hc, hon, hnc, hT, hl, hz⟩, fr.conv fun k _ hf => ?_⟩
    rcases BF_of hb' hf with rfl | rfl
    · exact Or.inl rfl
    · exact BF_row hb

theorem Buf.cells {w : World} {b T : Nat} {z : Bool} {l : List UInt8} (h : Buf w b T z l) : ∃ a n c lr, w.cell? ⟨b, 0, none⟩ = some (.slice a n c) ∧ w.cell? ⟨b, 2, none⟩ = some (.int .i8 lr) ∧ (∀ i, w.frozen? ⟨b, i, none⟩ = false) ∧ n ≤ c ∧ c ≤ maxLen := by
  rcases h with ⟨rfl, lr, hb⟩ | ⟨lr, r, n, c, o, cur, hb, hr, hcs, hc, hon, hnc, hT, hl, hz⟩
  · exact ⟨none, 0, 0, lr, by rw [cell_at hb]; rfl, by rw [cell_at hb]; rfl, free_at hb, Nat.le_refl _, Nat.zero_le _⟩
  · exact ⟨_, n, c, lr, by rw [cell_at hb]; rfl, by rw [cell_at hb]; rfl, free_at hb, hnc, hc⟩

/-- One cell is written. -/
theorem Room.poke {w : World} {b T i : Nat} {z : Bool} {l : List UInt8} (h : Room w b T z l i 1) :
    ∃ r c old, w.cell? ⟨b, 0, none⟩ = some (.slice (some ⟨r, 0, none⟩) (i + 1) c) ∧ i + 1 ≤ c ∧ c ≤ maxLen ∧ w.cell? ⟨r, i, none⟩ = some old ∧ w.frozen? ⟨r, i, none⟩ = false ∧ BF w b r ∧
      (∀ u : UInt8, Buf (w.setCell ⟨r, i, none⟩ (.int .u8 u.toNat)) b T z (l ++ [u]) ∧ (∀ k, BF (w.setCell ⟨r, i, none⟩ (.int .u8 u.toNat)) b k → BF w b k)) := by
  obtain ⟨lr, r, c, o, cur, hb, hr, hcs, hc, ho, hi, hT, hl, hz⟩ := h
  have hrb : r ≠ b := tag_ne hr hb (by decide)
  have hlt : i < cur.size := by omega
  refine ⟨r, c, cur[i], by rw [cell_at hb]; rfl, hi, hc, by rw [cell_at hr, Array.getElem?_eq_getElem hlt], free_at hr i, BF_row hb, fun u => ?_⟩
  have hb' := setCell_ne (b := r) (i := i) hb (Ne.symm hrb) (.int .u8 u.toNat)
  refine ⟨Or.inr ⟨lr, r, i + 1, c, o, _, hb', setCell_at hr _, by simpa using hcs, hc, by omega, hi, hT, ?_, hz⟩, fun k hk => (BF.of_same (hb'.trans hb.symm)).1 hk⟩
  have hll : i < cur.toList.length := by rw [Array.length_toList]; exact hlt
  rw [Array.toList_setIfInBounds, List.take_add_one, List.take_set_of_le (Nat.le_refl _), List.getElem?_set_self hll, Option.toList_some,
    List.drop_append_of_le_length (by rw [List.length_take]; omega), hl, bcells_append]
  rfl

/-- What a writer leaves. -/
def Wrote (w : World) (b T : Nat) (l news : List UInt8) (v : Value) (e : Ending) (w' : World) : Prop :=
  e = .returned v ∧ Buf w' b (T + news.length) true (l ++ news) ∧ Fr (BF w b) (BF w' b) w w'

set_option maxHeartbeats 1000000 in
/-- WriteByte. -/
theorem Buf_WriteByte (b T : Nat) (l : List UInt8) (u : UInt8) (w : World) (h : Buf w b T true l) (hlim : T + 1 ≤ LIM) :
    Calls Tryz.prog 128 #[.pointer (some ⟨b, 0, none⟩), .int .u8 u.toNat] w (Wrote w b T l [u] .nilIface) := by
  obtain ⟨a, n, c, lr, c0, c2, ff, hnc, hcm⟩ := h.cells
  have f2 := ff 2
  obtain ⟨h1, fr1⟩ := h.setLast 0
  have hlast : ∀ (W1 : World) (i : Nat), Room W1 b (T + 1) true l i 1 → Fr (BF w b) (BF W1 b) w W1 → ∃ r c old, W1.cell? ⟨b, 0, none⟩ = some (.slice (some ⟨r, 0, none⟩) (i + 1) c) ∧ i + 1 ≤ c ∧ c ≤ maxLen ∧ W1.cell? ⟨r, i, none⟩ = some old ∧ W1.frozen? ⟨r, i, none⟩ = false ∧
      Hid (Wrote w b T l [u] .nilIface (.returned .nilIface) (W1.setCell ⟨r, i, none⟩ (.int .u8 u.toNat))) := by
    intro W1 i hR hF
    obtain ⟨r, c, old, e1, e2, e3, e4, e5, e6, e7⟩ := hR.poke
    exact ⟨r, c, old, e1, e2, e3, e4, e5, rfl, (e7 u).1, (hF.setCell (p := ⟨r, i, none⟩) (Or.inl e6) _).conv fun k _ hk => (e7 u).2 k hk⟩
  have HLast := Lib.hid hlast
  have H1 := Lib.hid h1
  have HF1 := Lib.hid fr1
  clear c0 ff hnc hcm hlast h1 fr1 h
  go_enter Tryz.func128, Tryz.ntmps128
  go_wp2_with (go_at_call 86; refine (Buf_try b T 1 l _ H1.out (by omega)).mono ?_)
  rintro e W1 (⟨i, rfl, hR, hF⟩ | ⟨rfl, rfl, hno⟩)
  · obtain ⟨r, c, old, e1, e2, e3, e4, e5, hE⟩ := HLast.out W1 i hR (HF1.out.trans hF)
    clear hR hF c2 f2
    unfold maxLen at e3
    go_wp2
    go_ret
    exact hE.out
  · go_wp2_with (go_at_call 87; refine (Buf_grow b T 1 l _ H1.out hno hlim).mono ?_)
    rintro e W1 ⟨i, rfl, hR, hF⟩
    obtain ⟨r, c, old, e1, e2, e3, e4, e5, hE⟩ := HLast.out W1 i hR (HF1.out.trans hF)
    clear hR hF c2 f2 hno
    unfold maxLen at e3
    go_wp2
    go_ret
    exact hE.out

theorem hinfo : (Tryz.prog.info? 5).map (·.size) = some 1 := size_u8

set_option maxHeartbeats 1000000 in
/-- Write of at least one byte. -/
theorem Buf_Write_some (b T n c' : Nat) (l news : List UInt8) (a : Addr) (w : World) (h : Buf w b T true l) (hlim : T + n ≤ LIM) (hn1 : 1 ≤ n) (hlen : news.length = n) (hsrc : ∀ j v, (Lib.byteCells news)[j]? = some v → w.cell? (a.add j) = some v) (hfar : ¬ BF w b a.block) :
    Calls Tryz.prog 73 #[.pointer (some ⟨b, 0, none⟩), .slice (some a) n c'] w (Wrote w b T l news (.tuple #[.int .i64 n, .nilIface])) := by
  obtain ⟨a0, n0, c0', lr, c0, c2, ff, hnc, hcm⟩ := h.cells
  have f2 := ff 2
  obtain ⟨h1, fr1⟩ := h.setLast 0
  have hlim' := hlim
  unfold LIM at hlim'
  have hlast : ∀ (W1 : World) (i : Nat), Room W1 b (T + n) true l i n → Fr (BF w b) (BF W1 b) w W1 → ∃ r c Y, W1.cell? ⟨b, 0, none⟩ = some (.slice (some ⟨r, 0, none⟩) (i + n) c) ∧ i + n ≤ c ∧ c ≤ maxLen ∧
      (Builtin.copy_ #[24, 24] 3 #[.slice (some ⟨r, i, none⟩) n (c - i), .slice (some a) n c']).run Tryz.prog W1 = .ok (goInt n) (W1.setRow r Y) ∧
      Hid (Wrote w b T l news (.tuple #[.int .i64 n, .nilIface]) (.returned (.tuple #[.int .i64 n, .nilIface])) (W1.setRow r Y)) := by
    intro W1 i hR hF
    subst hlen
    obtain ⟨r, c, cur, e1, e2, e3, e4, e5, e6, e7, e8, e9⟩ := hR.fill news
    have hs1 : ∀ j v, (Lib.byteCells news)[j]? = some v → W1.cell? (a.add j) = some v := fun j v hj => hF.cell (hsrc j v hj) (by rw [block_add']; exact hfar)
    have hcp := run_copy_row (P := Tryz.prog) W1 24 24 3 5 r i news.length (c - i) a news.length c' cur U8 (Lib.byteCells news) Tryz.underlying24 hinfo e5 (by rw [bcells_length]; exact (Nat.min_self _).symm) hs1 (by rw [bcells_length]; omega) (Lib.byteCells_one news)
    rw [bcells_length] at hcp
    exact ⟨r, c, _, e1, e2, e3, hcp, rfl, e8, (hF.setRow (Or.inl e7) _).conv fun k _ hk => e9 k hk⟩
  have HLast := Lib.hid hlast
  have H1 := Lib.hid h1
  have HF1 := Lib.hid fr1
  clear c0 ff hnc hcm hlast h1 fr1 h hsrc hlen
  go_enter Tryz.func73, Tryz.ntmps73
  go_wp2_with (go_at_call 86; refine (Buf_try b T n l _ H1.out hn1).mono ?_)
  rintro e W1 (⟨i, rfl, hR, hF⟩ | ⟨rfl, rfl, hno⟩)
  · obtain ⟨r, c, Y, e1, e2, e3, e4, hE⟩ := HLast.out W1 i hR (HF1.out.trans hF)
    clear hR hF c2 f2
    have hne : ¬ c = i := by omega
    unfold maxLen at e3
    go_wp2
    go_ret2
    exact hE.out
  · go_wp2_with (go_at_call 87; refine (Buf_grow b T n l _ H1.out hno hlim).mono ?_)
    rintro e W1 ⟨i, rfl, hR, hF⟩
    obtain ⟨r, c, Y, e1, e2, e3, e4, hE⟩ := HLast.out W1 i hR (HF1.out.trans hF)
    clear hR hF c2 f2 hno
    have hne : ¬ c = i := by omega
    unfold maxLen at e3
    go_wp2
    go_ret2
    exact hE.out

set_option maxHeartbeats 1000000 in
/-- WriteString of at least one byte. -/
theorem Buf_WriteString_some (b T : Nat) (l : List UInt8) (s : ByteArray) (w : World) (h : Buf w b T true l) (hlim : T + s.size ≤ LIM) (hn1 : 1 ≤ s.size) :
    Calls Tryz.prog 129 #[.pointer (some ⟨b, 0, none⟩), .string s] w (Wrote w b T l s.data.toList (.tuple #[.int .i64 s.size, .nilIface])) := by
  obtain ⟨a0, n0, c0', lr, c0, c2, ff, hnc, hcm⟩ := h.cells
  have f2 := ff 2
  obtain ⟨h1, fr1⟩ := h.setLast 0
  have hlim' := hlim
  unfold LIM at hlim'
  have hss : s.data.toList.length = s.size := by rw [Array.length_toList]; rfl
  have hlast : ∀ (W1 : World) (i : Nat), Room W1 b (T + s.size) true l i s.size → Fr (BF w b) (BF W1 b) w W1 → ∃ r c Y, W1.cell? ⟨b, 0, none⟩ = some (.slice (some ⟨r, 0, none⟩) (i + s.size) c) ∧ i + s.size ≤ c ∧ c ≤ maxLen ∧
      (Builtin.copy_ #[24, 9] 3 #[.slice (some ⟨r, i, none⟩) s.size (c - i), .string s]).run Tryz.prog W1 = .ok (goInt s.size) (W1.setRow r Y) ∧
      Hid (Wrote w b T l s.data.toList (.tuple #[.int .i64 s.size, .nilIface]) (.returned (.tuple #[.int .i64 s.size, .nilIface])) (W1.setRow r Y)) := by
    intro W1 i hR hF
    rw [← hss] at hR
    obtain ⟨r, c, cur, e1, e2, e3, e4, e5, e6, e7, e8, e9⟩ := hR.fill s.data.toList
    rw [hss] at e1 e2 e8 e9
    have hcp := Lib.run_copy_row_string (P := Tryz.prog) W1 24 9 3 5 r i s.size (c - i) s cur U8 Tryz.underlying24 hinfo e5 (Nat.le_refl _) (by omega)
    exact ⟨r, c, _, e1, e2, e3, hcp, rfl, by rw [hss]; exact e8, (hF.setRow (Or.inl e7) _).conv fun k _ hk => e9 k hk⟩
  have HLast := Lib.hid hlast
  have H1 := Lib.hid h1
  have HF1 := Lib.hid fr1
  clear c0 ff hnc hcm hlast h1 fr1 h hss
  go_enter Tryz.func129, Tryz.ntmps129
  go_wp2_with (go_at_call 86; refine (Buf_try b T s.size l _ H1.out hn1).mono ?_)
  rintro e W1 (⟨i, rfl, hR, hF⟩ | ⟨rfl, rfl, hno⟩)
  · obtain ⟨r, c, Y, e1, e2, e3, e4, hE⟩ := HLast.out W1 i hR (HF1.out.trans hF)
    clear hR hF c2 f2
    have hne : ¬ c = i := by omega
    unfold maxLen at e3
    go_wp2
    go_ret2
    exact hE.out
  · go_wp2_with (go_at_call 87; refine (Buf_grow b T s.size l _ H1.out hno hlim).mono ?_)
    rintro e W1 ⟨i, rfl, hR, hF⟩
    obtain ⟨r, c, Y, e1, e2, e3, e4, hE⟩ := HLast.out W1 i hR (HF1.out.trans hF)
    clear hR hF c2 f2 hno
    have hne : ¬ c = i := by omega
    unfold maxLen at e3
    go_wp2
    go_ret2
    exact hE.out

/-- tryGrowByReslice by nothing. -/
theorem Buf_try0 (b T : Nat) (l : List UInt8) (w : World) (h : Buf w b T true l) :
    Calls Tryz.prog 86 #[.pointer (some ⟨b, 0, none⟩), .int .i64 0] w (fun e w' => ∃ n, e = .returned (.tuple #[.int .i64 ((n : Nat) : Int), .bool true]) ∧ (∃ a c, w'.cell? ⟨b, 0, none⟩ = some (.slice a n c) ∧ n ≤ c ∧ c ≤ maxLen) ∧ Buf w' b T true l ∧ Fr (BF w b) (BF w' b) w w') := by
  rcases h with ⟨rfl, lr, hb⟩ | ⟨lr, r, n, c, o, cur, hb, hr, hcs, hc, hon, hnc, hT, hl, hz⟩
  · refine (tryGrow_yes b none 0 0 0 w (by rw [cell_at hb]; rfl) (free_at hb 0) (Nat.le_refl _) (Nat.zero_le _) (Nat.le_refl _)).mono ?_
    rintro e w' ⟨he, rfl⟩
    have hb' := setCell_at (i := 0) hb (.slice none (0 + 0) 0)
    exact ⟨0, he, ⟨none, 0, by rw [cell_at hb']; rfl, Nat.le_refl _, Nat.zero_le _⟩, Or.inl ⟨rfl, lr, hb'⟩, ((Fr.refl (BF w b) w).setCell (p := ⟨b, 0, none⟩) (Or.inl (Or.inl rfl)) _).conv fun k _ hf => Or.inl (BF_nil hb' hf)⟩
  · refine (tryGrow_yes b _ n c 0 w (by rw [cell_at hb]; rfl) (free_at hb 0) hnc hc (Nat.zero_le _)).mono ?_
    rintro e w' ⟨he, rfl⟩
    have hb' := setCell_at (i := 0) hb (.slice (some ⟨r, 0, none⟩) (n + 0) c)
    have hrb : r ≠ b := tag_ne hr hb (by decide)
    refine ⟨n, he, ⟨_, c, by rw [cell_at hb']; rfl, hnc, hc⟩, Or.inr ⟨lr, r, n, c, o, cur, hb', setCell_ne hr hrb _, hcs, hc, hon, hnc, hT, hl, hz⟩, ((Fr.refl (BF w b) w).setCell (p := ⟨b, 0, none⟩) (Or.inl (Or.inl rfl)) _).conv fun k _ hf => ?_⟩
    rcases BF_of hb' hf with rfl | rfl
    · exact Or.inl rfl
    · exact BF_row hb

set_option maxHeartbeats 1000000 in
/-- Write of nothing. -/
theorem Buf_Write_none (b T c' : Nat) (l : List UInt8) (a : Option Addr) (w : World) (h : Buf w b T true l) :
    Calls Tryz.prog 73 #[.pointer (some ⟨b, 0, none⟩), .slice a 0 c'] w (Wrote w b T l [] (.tuple #[.int .i64 0, .nilIface])) := by
  obtain ⟨a0, n0, c0', lr, c0, c2, ff, hnc, hcm⟩ := h.cells
  have f2 := ff 2
  obtain ⟨h1, fr1⟩ := h.setLast 0
  have hce : ∀ d dLen dCap W, (Builtin.copy_ #[24, 24] 3 #[.slice d dLen dCap, .slice a 0 c']).run Tryz.prog W = .ok (goInt 0) W := fun d dLen dCap W => run_copy_none W 24 24 3 5 d a dLen dCap 0 c' Tryz.underlying24 hinfo (by simp)
  have H1 := Lib.hid h1
  have HF1 := Lib.hid fr1
  clear c0 ff hnc hcm h1 fr1 h
  go_enter Tryz.func73, Tryz.ntmps73
  go_wp2_with (go_at_call 86; refine (Buf_try0 b T l _ H1.out).mono ?_)
  rintro e W1 ⟨i, rfl, ⟨a1, c, e1, e2, e3⟩, hB, hF⟩
  have HE := Lib.hid (show Wrote w b T l [] (.tuple #[.int .i64 0, .nilIface]) (.returned (.tuple #[.int .i64 0, .nilIface])) W1 from ⟨rfl, by simpa using hB, HF1.out.trans hF⟩)
  clear hB hF c2 f2
  unfold maxLen at e3
  go_wp2
  all_goals
    go_ret2
    exact HE.out

set_option maxHeartbeats 1000000 in
/-- WriteString of nothing. -/
theorem Buf_WriteString_none (b T : Nat) (l : List UInt8) (s : ByteArray) (w : World) (h : Buf w b T true l) (hs0 : s.size = 0) :
    Calls Tryz.prog 129 #[.pointer (some ⟨b, 0, none⟩), .string s] w (Wrote w b T l [] (.tuple #[.int .i64 0, .nilIface])) := by
  obtain ⟨a0, n0, c0', lr, c0, c2, ff, hnc, hcm⟩ := h.cells
  have f2 := ff 2
  obtain ⟨h1, fr1⟩ := h.setLast 0
  have hce : ∀ d dLen dCap W, (Builtin.copy_ #[24, 9] 3 #[.slice d dLen dCap, .string s]).run Tryz.prog W = .ok (goInt 0) W := fun d dLen dCap W => Lib.run_copy_empty_string W 24 9 3 5 d dLen dCap s Tryz.underlying24 (by rw [hinfo]; rfl) hs0
  have hs0' : ((s.size : Nat) : Int) = 0 := by omega
  have H1 := Lib.hid h1
  have HF1 := Lib.hid fr1
  clear c0 ff hnc hcm h1 fr1 h
  go_enter Tryz.func129, Tryz.ntmps129
  go_wp2_with (go_at_call 86; refine (Buf_try0 b T l _ H1.out).mono ?_)
  rintro e W1 ⟨i, rfl, ⟨a1, c, e1, e2, e3⟩, hB, hF⟩
  have HE := Lib.hid (show Wrote w b T l [] (.tuple #[.int .i64 0, .nilIface]) (.returned (.tuple #[.int .i64 0, .nilIface])) W1 from ⟨rfl, by simpa using hB, HF1.out.trans hF⟩)
  clear hB hF c2 f2
  unfold maxLen at e3
  go_wp2
  all_goals
    go_ret2
    exact HE.out

/-- Write. -/
theorem Buf_Write (b T : Nat) (l news : List UInt8) (v : Value) (w : World) (h : Buf w b T true l) (hlim : T + news.length ≤ LIM) (hv : Rd w v news) (hfar : ∀ k, vblk v k → ¬ BF w b k) :
    Calls Tryz.prog 73 #[.pointer (some ⟨b, 0, none⟩), v] w (Wrote w b T l news (.tuple #[.int .i64 (news.length : Nat), .nilIface])) := by
  rcases hv with ⟨rfl, rfl⟩ | ⟨a, n, c, rfl, hl, hc, hm, hs⟩
  · exact Buf_Write_none b T 0 l none w h
  · have hsrc := (Rd.src (Or.inr ⟨a, n, c, rfl, hl, hc, hm, hs⟩)).2
    rcases Nat.eq_zero_or_pos n with h0 | h0
    · subst h0
      obtain rfl := List.eq_nil_of_length_eq_zero hl
      exact Buf_Write_none b T c l (some a) w h
    · rw [hl]
      refine Buf_Write_some b T n c l news a w h (by omega) h0 hl hsrc ?_
      obtain ⟨m, rfl⟩ : ∃ m, n = m + 1 := ⟨n - 1, by omega⟩
      exact hfar _ rfl

/-- WriteString. -/
theorem Buf_WriteString (b T : Nat) (l : List UInt8) (s : ByteArray) (w : World) (h : Buf w b T true l) (hlim : T + s.size ≤ LIM) :
    Calls Tryz.prog 129 #[.pointer (some ⟨b, 0, none⟩), .string s] w (Wrote w b T l s.data.toList (.tuple #[.int .i64 s.size, .nilIface])) := by
  rcases Nat.eq_zero_or_pos s.size with h0 | h0
  · have : s.data.toList = [] := List.eq_nil_of_length_eq_zero (by rw [Array.length_toList]; exact h0)
    rw [this, h0]
    exact Buf_WriteString_none b T l s w h h0
  · exact Buf_WriteString_some b T l s w h hlim h0
end Go.Proofs.YtdifknecndlklaaGreatDoor
namespace Go.Proofs.YtdifknecndlklaaGreatDoor
open Go Go.RowKit

/-- The bytes of an array in a block, behind other cells. -/
def Arr (w : World) (g : Nat) (T : TypeId) (hd : List Value) (buf : List UInt8) : Prop := w.heap[g]? = some (.cells (hd ++ Lib.byteCells buf).toArray T (0, 0))

theorem Arr.cell {w : World} {g : Nat} {T : TypeId} {hd : List Value} {buf : List UInt8} (h : Arr w g T hd buf) (j : Nat) (hj : j < buf.length) : w.cell? ⟨g, hd.length + j, none⟩ = some (.int .u8 (buf[j]).toNat) := by
  rw [cell_at h]
  simp [Lib.byteCells, hj]
theorem Arr.head {w : World} {g : Nat} {T : TypeId} {hd : List Value} {buf : List UInt8} (h : Arr w g T hd buf) (j : Nat) (v : Value) (hj : hd[j]? = some v) : w.cell? ⟨g, j, none⟩ = some v := by
  rw [cell_at h, List.getElem?_toArray, List.getElem?_append_left (List.getElem?_eq_some_iff.1 hj).1, hj]
theorem Arr.free {w : World} {g : Nat} {T : TypeId} {hd : List Value} {buf : List UInt8} (h : Arr w g T hd buf) (j : Nat) : w.frozen? ⟨g, j, none⟩ = false := free_at h j
theorem Arr.set {w : World} {g : Nat} {T : TypeId} {hd : List Value} {buf : List UInt8} (h : Arr w g T hd buf) (j : Nat) (u : UInt8) : Arr (w.setCell ⟨g, hd.length + j, none⟩ (.int .u8 u.toNat)) g T hd (buf.set j u) := by
  unfold Arr
  rw [setCell_at h]
  simp [Lib.byteCells, List.map_set]
theorem Arr.setHead {w : World} {g : Nat} {T : TypeId} {hd : List Value} {buf : List UInt8} (h : Arr w g T hd buf) (j : Nat) (hj : j < hd.length) (v : Value) : Arr (w.setCell ⟨g, j, none⟩ v) g T (hd.set j v) buf := by
  unfold Arr
  rw [setCell_at h]
  simp [hj]
/-- Only block g. -/
def one (g : Nat) : Nat → Prop := fun k => k = g

/-- Put and its result. -/
def PutP (w : World) (g : Nat) (T : TypeId) (hd : List Value) (buf : List UInt8) (e : Ending) (w' : World) : Prop := e = .returned (.tuple #[]) ∧ Arr w' g T hd buf ∧ Fr (one g) (one g) w w'

set_option maxHeartbeats 2000000 in
set_option maxRecDepth 100000 in
/-- BE.PutUint16 into the head of an array. -/
theorem PutBE2 (g o v : Nat) (hd : List Value) (buf : List UInt8) (T : TypeId) (w : World) (h : Arr w g T hd buf) (ho : hd.length = o) (hv : v < 65536) (hl : 2 ≤ buf.length) :
    Calls Tryz.prog 277 #[.agg #[], .slice (some ⟨g, o, none⟩) 2 64, .int .u16 v] w (PutP w g T hd (Lib.beBytes 2 v ++ buf.drop 2)) := by
  subst ho
  have h' : Arr (w.alloc (.cells #[] 354)) g T hd buf := alloc_at h
  have d0 : (w.alloc (.cells #[] 354)).cell? ⟨g, hd.length, none⟩ = some (.int .u8 (buf[0]).toNat) := h'.cell 0 (by omega)
  have f0 : (w.alloc (.cells #[] 354)).frozen? ⟨g, hd.length, none⟩ = false := h'.free _
  have d1 : (w.alloc (.cells #[] 354)).cell? ⟨g, hd.length + 1, none⟩ = some (.int .u8 (buf[1]).toNat) := h'.cell 1 (by omega)
  have f1 : (w.alloc (.cells #[] 354)).frozen? ⟨g, hd.length + 1, none⟩ = false := h'.free _
  have e0 : (v : Int) / 256 = ((((v / 256) % 256).toUInt8).toNat : Int) := by rw [Lib.toUInt8_mod]; omega
  have e1 : (v : Int) % 256 = (((v % 256).toUInt8).toNat : Int) := by rw [Lib.toUInt8_mod]; omega
  have hbs : Lib.beBytes 2 v = [((v / 256) % 256).toUInt8, (v % 256).toUInt8] := by
    simp only [Lib.beBytes, Lib.leBytes, List.reverse_cons, List.reverse_nil, List.nil_append, List.cons_append]
  obtain ⟨a0, a1, rest, rfl⟩ : ∃ a0 a1 rest, buf = a0 :: a1 :: rest := by
    match buf, hl with
    | a0 :: a1 :: rest, _ => exact ⟨a0, a1, rest, rfl⟩
  have hA : Arr (((w.alloc (.cells #[] 354)).setCell ⟨g, hd.length, none⟩ (.int .u8 ((((v / 256) % 256).toUInt8).toNat : Int))).setCell ⟨g, hd.length + 1, none⟩ (.int .u8 (((v % 256).toUInt8).toNat : Int))) g T hd (((v / 256) % 256).toUInt8 :: (v % 256).toUInt8 :: rest) := ((h'.set 0 _).set 1 _)
  have hF : Fr (one g) (one g) w (((w.alloc (.cells #[] 354)).setCell ⟨g, hd.length, none⟩ (.int .u8 ((((v / 256) % 256).toUInt8).toNat : Int))).setCell ⟨g, hd.length + 1, none⟩ (.int .u8 (((v % 256).toUInt8).toNat : Int))) := ((((Fr.refl (one g) w).alloc _).setCell (p := ⟨g, hd.length, none⟩) (Or.inl rfl) _).setCell (p := ⟨g, hd.length + 1, none⟩) (Or.inl rfl) _)
  have HA := Lib.hid hA
  have HF := Lib.hid hF
  have HB := Lib.hid hbs
  have E0 := Lib.hid e0
  have E1 := Lib.hid e1
  clear hA hF hbs e0 e1 h h'
  go_enter Tryz.func277, Tryz.ntmps277
  go_wp2
  go_end0
  rw [E0.out, E1.out]
  refine ⟨rfl, ?_, HF.out⟩
  rw [HB.out]
  exact HA.out

set_option maxHeartbeats 2000000 in
set_option maxRecDepth 100000 in
/-- BE.PutUint32 into the head of an array. -/
theorem PutBE4 (g o v : Nat) (hd : List Value) (buf : List UInt8) (T : TypeId) (w : World) (h : Arr w g T hd buf) (ho : hd.length = o) (hv : v < 4294967296) (hl : 4 ≤ buf.length) :
    Calls Tryz.prog 278 #[.agg #[], .slice (some ⟨g, o, none⟩) 4 64, .int .u32 v] w (PutP w g T hd (Lib.beBytes 4 v ++ buf.drop 4)) := by
  subst ho
  have h' : Arr (w.alloc (.cells #[] 354)) g T hd buf := alloc_at h
  have d0 : (w.alloc (.cells #[] 354)).cell? ⟨g, hd.length, none⟩ = some (.int .u8 (buf[0]).toNat) := h'.cell 0 (by omega)
  have f0 : (w.alloc (.cells #[] 354)).frozen? ⟨g, hd.length, none⟩ = false := h'.free _
  have d1 : (w.alloc (.cells #[] 354)).cell? ⟨g, hd.length + 1, none⟩ = some (.int .u8 (buf[1]).toNat) := h'.cell 1 (by omega)
  have f1 : (w.alloc (.cells #[] 354)).frozen? ⟨g, hd.length + 1, none⟩ = false := h'.free _
  have d2 : (w.alloc (.cells #[] 354)).cell? ⟨g, hd.length + 2, none⟩ = some (.int .u8 (buf[2]).toNat) := h'.cell 2 (by omega)
  have f2 : (w.alloc (.cells #[] 354)).frozen? ⟨g, hd.length + 2, none⟩ = false := h'.free _
  have d3 : (w.alloc (.cells #[] 354)).cell? ⟨g, hd.length + 3, none⟩ = some (.int .u8 (buf[3]).toNat) := h'.cell 3 (by omega)
  have f3 : (w.alloc (.cells #[] 354)).frozen? ⟨g, hd.length + 3, none⟩ = false := h'.free _
  have e0 : (v : Int) / 16777216 = ((((v / 16777216) % 256).toUInt8).toNat : Int) := by rw [Lib.toUInt8_mod]; omega
  have e1 : (v : Int) / 65536 % 256 = ((((v / 65536) % 256).toUInt8).toNat : Int) := by rw [Lib.toUInt8_mod]; omega
  have e2 : (v : Int) / 256 % 256 = ((((v / 256) % 256).toUInt8).toNat : Int) := by rw [Lib.toUInt8_mod]; omega
  have e3 : (v : Int) % 256 = (((v % 256).toUInt8).toNat : Int) := by rw [Lib.toUInt8_mod]; omega
  have hbs : Lib.beBytes 4 v = [((v / 16777216) % 256).toUInt8, ((v / 65536) % 256).toUInt8, ((v / 256) % 256).toUInt8, (v % 256).toUInt8] := by
    simp only [Lib.beBytes, Lib.leBytes, List.reverse_cons, List.reverse_nil, List.nil_append, List.cons_append, Nat.div_div_eq_div_mul, Nat.reduceMul]
  obtain ⟨a0, a1, a2, a3, rest, rfl⟩ : ∃ a0 a1 a2 a3 rest, buf = a0 :: a1 :: a2 :: a3 :: rest := by
    match buf, hl with
    | a0 :: a1 :: a2 :: a3 :: rest, _ => exact ⟨a0, a1, a2, a3, rest, rfl⟩
  have hA : Arr (((((w.alloc (.cells #[] 354)).setCell ⟨g, hd.length, none⟩ (.int .u8 ((((v / 16777216) % 256).toUInt8).toNat : Int))).setCell ⟨g, hd.length + 1, none⟩ (.int .u8 ((((v / 65536) % 256).toUInt8).toNat : Int))).setCell ⟨g, hd.length + 2, none⟩ (.int .u8 ((((v / 256) % 256).toUInt8).toNat : Int))).setCell ⟨g, hd.length + 3, none⟩ (.int .u8 (((v % 256).toUInt8).toNat : Int))) g T hd (((v / 16777216) % 256).toUInt8 :: ((v / 65536) % 256).toUInt8 :: ((v / 256) % 256).toUInt8 :: (v % 256).toUInt8 :: rest) := ((((h'.set 0 _).set 1 _).set 2 _).set 3 _)
  have hF : Fr (one g) (one g) w (((((w.alloc (.cells #[] 354)).setCell ⟨g, hd.length, none⟩ (.int .u8 ((((v / 16777216) % 256).toUInt8).toNat : Int))).setCell ⟨g, hd.length + 1, none⟩ (.int .u8 ((((v / 65536) % 256).toUInt8).toNat : Int))).setCell ⟨g, hd.length + 2, none⟩ (.int .u8 ((((v / 256) % 256).toUInt8).toNat : Int))).setCell ⟨g, hd.length + 3, none⟩ (.int .u8 (((v % 256).toUInt8).toNat : Int))) := ((((((Fr.refl (one g) w).alloc _).setCell (p := ⟨g, hd.length, none⟩) (Or.inl rfl) _).setCell (p := ⟨g, hd.length + 1, none⟩) (Or.inl rfl) _).setCell (p := ⟨g, hd.length + 2, none⟩) (Or.inl rfl) _).setCell (p := ⟨g, hd.length + 3, none⟩) (Or.inl rfl) _)
  have HA := Lib.hid hA
  have HF := Lib.hid hF
  have HB := Lib.hid hbs
  have E0 := Lib.hid e0
  have E1 := Lib.hid e1
  have E2 := Lib.hid e2
  have E3 := Lib.hid e3
  clear hA hF hbs e0 e1 e2 e3 h h'
  go_enter Tryz.func278, Tryz.ntmps278
  go_wp2
  go_end0
  rw [E0.out, E1.out, E2.out, E3.out]
  refine ⟨rfl, ?_, HF.out⟩
  rw [HB.out]
  exact HA.out

set_option maxHeartbeats 2000000 in
set_option maxRecDepth 100000 in
/-- BE.PutUint64 into the head of an array. -/
theorem PutBE8 (g o v : Nat) (hd : List Value) (buf : List UInt8) (T : TypeId) (w : World) (h : Arr w g T hd buf) (ho : hd.length = o) (hv : v < 18446744073709551616) (hl : 8 ≤ buf.length) :
    Calls Tryz.prog 279 #[.agg #[], .slice (some ⟨g, o, none⟩) 8 64, .int .u64 v] w (PutP w g T hd (Lib.beBytes 8 v ++ buf.drop 8)) := by
  subst ho
  have h' : Arr (w.alloc (.cells #[] 354)) g T hd buf := alloc_at h
  have d0 : (w.alloc (.cells #[] 354)).cell? ⟨g, hd.length, none⟩ = some (.int .u8 (buf[0]).toNat) := h'.cell 0 (by omega)
  have f0 : (w.alloc (.cells #[] 354)).frozen? ⟨g, hd.length, none⟩ = false := h'.free _
  have d1 : (w.alloc (.cells #[] 354)).cell? ⟨g, hd.length + 1, none⟩ = some (.int .u8 (buf[1]).toNat) := h'.cell 1 (by omega)
  have f1 : (w.alloc (.cells #[] 354)).frozen? ⟨g, hd.length + 1, none⟩ = false := h'.free _
  have d2 : (w.alloc (.cells #[] 354)).cell? ⟨g, hd.length + 2, none⟩ = some (.int .u8 (buf[2]).toNat) := h'.cell 2 (by omega)
  have f2 : (w.alloc (.cells #[] 354)).frozen? ⟨g, hd.length + 2, none⟩ = false := h'.free _
  have d3 : (w.alloc (.cells #[] 354)).cell? ⟨g, hd.length + 3, none⟩ = some (.int .u8 (buf[3]).toNat) := h'.cell 3 (by omega)
  have f3 : (w.alloc (.cells #[] 354)).frozen? ⟨g, hd.length + 3, none⟩ = false := h'.free _
  have d4 : (w.alloc (.cells #[] 354)).cell? ⟨g, hd.length + 4, none⟩ = some (.int .u8 (buf[4]).toNat) := h'.cell 4 (by omega)
  have f4 : (w.alloc (.cells #[] 354)).frozen? ⟨g, hd.length + 4, none⟩ = false := h'.free _
  have d5 : (w.alloc (.cells #[] 354)).cell? ⟨g, hd.length + 5, none⟩ = some (.int .u8 (buf[5]).toNat) := h'.cell 5 (by omega)
  have f5 : (w.alloc (.cells #[] 354)).frozen? ⟨g, hd.length + 5, none⟩ = false := h'.free _
  have d6 : (w.alloc (.cells #[] 354)).cell? ⟨g, hd.length + 6, none⟩ = some (.int .u8 (buf[6]).toNat) := h'.cell 6 (by omega)
  have f6 : (w.alloc (.cells #[] 354)).frozen? ⟨g, hd.length + 6, none⟩ = false := h'.free _
  have d7 : (w.alloc (.cells #[] 354)).cell? ⟨g, hd.length + 7, none⟩ = some (.int .u8 (buf[7]).toNat) := h'.cell 7 (by omega)
  have f7 : (w.alloc (.cells #[] 354)).frozen? ⟨g, hd.length + 7, none⟩ = false := h'.free _
  have e0 : (v : Int) / 72057594037927936 = ((((v / 72057594037927936) % 256).toUInt8).toNat : Int) := by rw [Lib.toUInt8_mod]; omega
  have e1 : (v : Int) / 281474976710656 % 256 = ((((v / 281474976710656) % 256).toUInt8).toNat : Int) := by rw [Lib.toUInt8_mod]; omega
  have e2 : (v : Int) / 1099511627776 % 256 = ((((v / 1099511627776) % 256).toUInt8).toNat : Int) := by rw [Lib.toUInt8_mod]; omega
  have e3 : (v : Int) / 4294967296 % 256 = ((((v / 4294967296) % 256).toUInt8).toNat : Int) := by rw [Lib.toUInt8_mod]; omega
  have e4 : (v : Int) / 16777216 % 256 = ((((v / 16777216) % 256).toUInt8).toNat : Int) := by rw [Lib.toUInt8_mod]; omega
  have e5 : (v : Int) / 65536 % 256 = ((((v / 65536) % 256).toUInt8).toNat : Int) := by rw [Lib.toUInt8_mod]; omega
  have e6 : (v : Int) / 256 % 256 = ((((v / 256) % 256).toUInt8).toNat : Int) := by rw [Lib.toUInt8_mod]; omega
  have e7 : (v : Int) % 256 = (((v % 256).toUInt8).toNat : Int) := by rw [Lib.toUInt8_mod]; omega
  have hbs : Lib.beBytes 8 v = [((v / 72057594037927936) % 256).toUInt8, ((v / 281474976710656) % 256).toUInt8, ((v / 1099511627776) % 256).toUInt8, ((v / 4294967296) % 256).toUInt8, ((v / 16777216) % 256).toUInt8, ((v / 65536) % 256).toUInt8, ((v / 256) % 256).toUInt8, (v % 256).toUInt8] := by
    simp only [Lib.beBytes, Lib.leBytes, List.reverse_cons, List.reverse_nil, List.nil_append, List.cons_append, Nat.div_div_eq_div_mul, Nat.reduceMul]
  obtain ⟨a0, a1, a2, a3, a4, a5, a6, a7, rest, rfl⟩ : ∃ a0 a1 a2 a3 a4 a5 a6 a7 rest, buf = a0 :: a1 :: a2 :: a3 :: a4 :: a5 :: a6 :: a7 :: rest := by
    match buf, hl with
    | a0 :: a1 :: a2 :: a3 :: a4 :: a5 :: a6 :: a7 :: rest, _ => exact ⟨a0, a1, a2, a3, a4, a5, a6, a7, rest, rfl⟩
  have hA : Arr (((((((((w.alloc (.cells #[] 354)).setCell ⟨g, hd.length, none⟩ (.int .u8 ((((v / 72057594037927936) % 256).toUInt8).toNat : Int))).setCell ⟨g, hd.length + 1, none⟩ (.int .u8 ((((v / 281474976710656) % 256).toUInt8).toNat : Int))).setCell ⟨g, hd.length + 2, none⟩ (.int .u8 ((((v / 1099511627776) % 256).toUInt8).toNat : Int))).setCell ⟨g, hd.length + 3, none⟩ (.int .u8 ((((v / 4294967296) % 256).toUInt8).toNat : Int))).setCell ⟨g, hd.length + 4, none⟩ (.int .u8 ((((v / 16777216) % 256).toUInt8).toNat : Int))).setCell ⟨g, hd.length + 5, none⟩ (.int .u8 ((((v / 65536) % 256).toUInt8).toNat : Int))).setCell ⟨g, hd.length + 6, none⟩ (.int .u8 ((((v / 256) % 256).toUInt8).toNat : Int))).setCell ⟨g, hd.length + 7, none⟩ (.int .u8 (((v % 256).toUInt8).toNat : Int))) g T hd (((v / 72057594037927936) % 256).toUInt8 :: ((v / 281474976710656) % 256).toUInt8 :: ((v / 1099511627776) % 256).toUInt8 :: ((v / 4294967296) % 256).toUInt8 :: ((v / 16777216) % 256).toUInt8 :: ((v / 65536) % 256).toUInt8 :: ((v / 256) % 256).toUInt8 :: (v % 256).toUInt8 :: rest) := ((((((((h'.set 0 _).set 1 _).set 2 _).set 3 _).set 4 _).set 5 _).set 6 _).set 7 _)
  have hF : Fr (one g) (one g) w (((((((((w.alloc (.cells #[] 354)).setCell ⟨g, hd.length, none⟩ (.int .u8 ((((v / 72057594037927936) % 256).toUInt8).toNat : Int))).setCell ⟨g, hd.length + 1, none⟩ (.int .u8 ((((v / 281474976710656) % 256).toUInt8).toNat : Int))).setCell ⟨g, hd.length + 2, none⟩ (.int .u8 ((((v / 1099511627776) % 256).toUInt8).toNat : Int))).setCell ⟨g, hd.length + 3, none⟩ (.int .u8 ((((v / 4294967296) % 256).toUInt8).toNat : Int))).setCell ⟨g, hd.length + 4, none⟩ (.int .u8 ((((v / 16777216) % 256).toUInt8).toNat : Int))).setCell ⟨g, hd.length + 5, none⟩ (.int .u8 ((((v / 65536) % 256).toUInt8).toNat : Int))).setCell ⟨g, hd.length + 6, none⟩ (.int .u8 ((((v / 256) % 256).toUInt8).toNat : Int))).setCell ⟨g, hd.length + 7, none⟩ (.int .u8 (((v % 256).toUInt8).toNat : Int))) := ((((((((((Fr.refl (one g) w).alloc _).setCell (p := ⟨g, hd.length, none⟩) (Or.inl rfl) _).setCell (p := ⟨g, hd.length + 1, none⟩) (Or.inl rfl) _).setCell (p := ⟨g, hd.length + 2, none⟩) (Or.inl rfl) _).setCell (p := ⟨g, hd.length + 3, none⟩) (Or.inl rfl) _).setCell (p := ⟨g, hd.length + 4, none⟩) (Or.inl rfl) _).setCell (p := ⟨g, hd.length + 5, none⟩) (Or.inl rfl) _).setCell (p := ⟨g, hd.length + 6, none⟩) (Or.inl rfl) _).setCell (p := ⟨g, hd.length + 7, none⟩) (Or.inl rfl) _)
  have HA := Lib.hid hA
  have HF := Lib.hid hF
  have HB := Lib.hid hbs
  have E0 := Lib.hid e0
  have E1 := Lib.hid e1
  have E2 := Lib.hid e2
  have E3 := Lib.hid e3
  have E4 := Lib.hid e4
  have E5 := Lib.hid e5
  have E6 := Lib.hid e6
  have E7 := Lib.hid e7
  clear hA hF hbs e0 e1 e2 e3 e4 e5 e6 e7 h h'
  go_enter Tryz.func279, Tryz.ntmps279
  go_wp2
  go_end0
  rw [E0.out, E1.out, E2.out, E3.out, E4.out, E5.out, E6.out, E7.out]
  refine ⟨rfl, ?_, HF.out⟩
  rw [HB.out]
  exact HA.out

set_option maxHeartbeats 2000000 in
set_option maxRecDepth 100000 in
/-- LE.PutUint64 into the head of an array. -/
theorem PutLE8 (g o v : Nat) (hd : List Value) (buf : List UInt8) (T : TypeId) (w : World) (h : Arr w g T hd buf) (ho : hd.length = o) (hv : v < 18446744073709551616) (hl : 8 ≤ buf.length) :
    Calls Tryz.prog 211 #[.agg #[], .slice (some ⟨g, o, none⟩) 8 64, .int .u64 v] w (PutP w g T hd (Lib.leBytes 8 v ++ buf.drop 8)) := by
  subst ho
  have h' : Arr (w.alloc (.cells #[] 330)) g T hd buf := alloc_at h
  have d0 : (w.alloc (.cells #[] 330)).cell? ⟨g, hd.length, none⟩ = some (.int .u8 (buf[0]).toNat) := h'.cell 0 (by omega)
  have f0 : (w.alloc (.cells #[] 330)).frozen? ⟨g, hd.length, none⟩ = false := h'.free _
  have d1 : (w.alloc (.cells #[] 330)).cell? ⟨g, hd.length + 1, none⟩ = some (.int .u8 (buf[1]).toNat) := h'.cell 1 (by omega)
  have f1 : (w.alloc (.cells #[] 330)).frozen? ⟨g, hd.length + 1, none⟩ = false := h'.free _
  have d2 : (w.alloc (.cells #[] 330)).cell? ⟨g, hd.length + 2, none⟩ = some (.int .u8 (buf[2]).toNat) := h'.cell 2 (by omega)
  have f2 : (w.alloc (.cells #[] 330)).frozen? ⟨g, hd.length + 2, none⟩ = false := h'.free _
  have d3 : (w.alloc (.cells #[] 330)).cell? ⟨g, hd.length + 3, none⟩ = some (.int .u8 (buf[3]).toNat) := h'.cell 3 (by omega)
  have f3 : (w.alloc (.cells #[] 330)).frozen? ⟨g, hd.length + 3, none⟩ = false := h'.free _
  have d4 : (w.alloc (.cells #[] 330)).cell? ⟨g, hd.length + 4, none⟩ = some (.int .u8 (buf[4]).toNat) := h'.cell 4 (by omega)
  have f4 : (w.alloc (.cells #[] 330)).frozen? ⟨g, hd.length + 4, none⟩ = false := h'.free _
  have d5 : (w.alloc (.cells #[] 330)).cell? ⟨g, hd.length + 5, none⟩ = some (.int .u8 (buf[5]).toNat) := h'.cell 5 (by omega)
  have f5 : (w.alloc (.cells #[] 330)).frozen? ⟨g, hd.length + 5, none⟩ = false := h'.free _
  have d6 : (w.alloc (.cells #[] 330)).cell? ⟨g, hd.length + 6, none⟩ = some (.int .u8 (buf[6]).toNat) := h'.cell 6 (by omega)
  have f6 : (w.alloc (.cells #[] 330)).frozen? ⟨g, hd.length + 6, none⟩ = false := h'.free _
  have d7 : (w.alloc (.cells #[] 330)).cell? ⟨g, hd.length + 7, none⟩ = some (.int .u8 (buf[7]).toNat) := h'.cell 7 (by omega)
  have f7 : (w.alloc (.cells #[] 330)).frozen? ⟨g, hd.length + 7, none⟩ = false := h'.free _
  have e0 : (v : Int) % 256 = (((v % 256).toUInt8).toNat : Int) := by rw [Lib.toUInt8_mod]; omega
  have e1 : (v : Int) / 256 % 256 = ((((v / 256) % 256).toUInt8).toNat : Int) := by rw [Lib.toUInt8_mod]; omega
  have e2 : (v : Int) / 65536 % 256 = ((((v / 65536) % 256).toUInt8).toNat : Int) := by rw [Lib.toUInt8_mod]; omega
  have e3 : (v : Int) / 16777216 % 256 = ((((v / 16777216) % 256).toUInt8).toNat : Int) := by rw [Lib.toUInt8_mod]; omega
  have e4 : (v : Int) / 4294967296 % 256 = ((((v / 4294967296) % 256).toUInt8).toNat : Int) := by rw [Lib.toUInt8_mod]; omega
  have e5 : (v : Int) / 1099511627776 % 256 = ((((v / 1099511627776) % 256).toUInt8).toNat : Int) := by rw [Lib.toUInt8_mod]; omega
  have e6 : (v : Int) / 281474976710656 % 256 = ((((v / 281474976710656) % 256).toUInt8).toNat : Int) := by rw [Lib.toUInt8_mod]; omega
  have e7 : (v : Int) / 72057594037927936 = ((((v / 72057594037927936) % 256).toUInt8).toNat : Int) := by rw [Lib.toUInt8_mod]; omega
  have hbs : Lib.leBytes 8 v = [(v % 256).toUInt8, ((v / 256) % 256).toUInt8, ((v / 65536) % 256).toUInt8, ((v / 16777216) % 256).toUInt8, ((v / 4294967296) % 256).toUInt8, ((v / 1099511627776) % 256).toUInt8, ((v / 281474976710656) % 256).toUInt8, ((v / 72057594037927936) % 256).toUInt8] := by
    simp only [Lib.leBytes, Nat.div_div_eq_div_mul, Nat.reduceMul]
  obtain ⟨a0, a1, a2, a3, a4, a5, a6, a7, rest, rfl⟩ : ∃ a0 a1 a2 a3 a4 a5 a6 a7 rest, buf = a0 :: a1 :: a2 :: a3 :: a4 :: a5 :: a6 :: a7 :: rest := by
    match buf, hl with
    | a0 :: a1 :: a2 :: a3 :: a4 :: a5 :: a6 :: a7 :: rest, _ => exact ⟨a0, a1, a2, a3, a4, a5, a6, a7, rest, rfl⟩
  have hA : Arr (((((((((w.alloc (.cells #[] 330)).setCell ⟨g, hd.length, none⟩ (.int .u8 (((v % 256).toUInt8).toNat : Int))).setCell ⟨g, hd.length + 1, none⟩ (.int .u8 ((((v / 256) % 256).toUInt8).toNat : Int))).setCell ⟨g, hd.length + 2, none⟩ (.int .u8 ((((v / 65536) % 256).toUInt8).toNat : Int))).setCell ⟨g, hd.length + 3, none⟩ (.int .u8 ((((v / 16777216) % 256).toUInt8).toNat : Int))).setCell ⟨g, hd.length + 4, none⟩ (.int .u8 ((((v / 4294967296) % 256).toUInt8).toNat : Int))).setCell ⟨g, hd.length + 5, none⟩ (.int .u8 ((((v / 1099511627776) % 256).toUInt8).toNat : Int))).setCell ⟨g, hd.length + 6, none⟩ (.int .u8 ((((v / 281474976710656) % 256).toUInt8).toNat : Int))).setCell ⟨g, hd.length + 7, none⟩ (.int .u8 ((((v / 72057594037927936) % 256).toUInt8).toNat : Int))) g T hd ((v % 256).toUInt8 :: ((v / 256) % 256).toUInt8 :: ((v / 65536) % 256).toUInt8 :: ((v / 16777216) % 256).toUInt8 :: ((v / 4294967296) % 256).toUInt8 :: ((v / 1099511627776) % 256).toUInt8 :: ((v / 281474976710656) % 256).toUInt8 :: ((v / 72057594037927936) % 256).toUInt8 :: rest) := ((((((((h'.set 0 _).set 1 _).set 2 _).set 3 _).set 4 _).set 5 _).set 6 _).set 7 _)
  have hF : Fr (one g) (one g) w (((((((((w.alloc (.cells #[] 330)).setCell ⟨g, hd.length, none⟩ (.int .u8 (((v % 256).toUInt8).toNat : Int))).setCell ⟨g, hd.length + 1, none⟩ (.int .u8 ((((v / 256) % 256).toUInt8).toNat : Int))).setCell ⟨g, hd.length + 2, none⟩ (.int .u8 ((((v / 65536) % 256).toUInt8).toNat : Int))).setCell ⟨g, hd.length + 3, none⟩ (.int .u8 ((((v / 16777216) % 256).toUInt8).toNat : Int))).setCell ⟨g, hd.length + 4, none⟩ (.int .u8 ((((v / 4294967296) % 256).toUInt8).toNat : Int))).setCell ⟨g, hd.length + 5, none⟩ (.int .u8 ((((v / 1099511627776) % 256).toUInt8).toNat : Int))).setCell ⟨g, hd.length + 6, none⟩ (.int .u8 ((((v / 281474976710656) % 256).toUInt8).toNat : Int))).setCell ⟨g, hd.length + 7, none⟩ (.int .u8 ((((v / 72057594037927936) % 256).toUInt8).toNat : Int))) := ((((((((((Fr.refl (one g) w).alloc _).setCell (p := ⟨g, hd.length, none⟩) (Or.inl rfl) _).setCell (p := ⟨g, hd.length + 1, none⟩) (Or.inl rfl) _).setCell (p := ⟨g, hd.length + 2, none⟩) (Or.inl rfl) _).setCell (p := ⟨g, hd.length + 3, none⟩) (Or.inl rfl) _).setCell (p := ⟨g, hd.length + 4, none⟩) (Or.inl rfl) _).setCell (p := ⟨g, hd.length + 5, none⟩) (Or.inl rfl) _).setCell (p := ⟨g, hd.length + 6, none⟩) (Or.inl rfl) _).setCell (p := ⟨g, hd.length + 7, none⟩) (Or.inl rfl) _)
  have HA := Lib.hid hA
  have HF := Lib.hid hF
  have HB := Lib.hid hbs
  have E0 := Lib.hid e0
  have E1 := Lib.hid e1
  have E2 := Lib.hid e2
  have E3 := Lib.hid e3
  have E4 := Lib.hid e4
  have E5 := Lib.hid e5
  have E6 := Lib.hid e6
  have E7 := Lib.hid e7
  clear hA hF hbs e0 e1 e2 e3 e4 e5 e6 e7 h h'
  go_enter Tryz.func211, Tryz.ntmps211
  go_wp2
  go_end0
  rw [E0.out, E1.out, E2.out, E3.out, E4.out, E5.out, E6.out, E7.out]
  refine ⟨rfl, ?_, HF.out⟩
  rw [HB.out]
  exact HA.out

end Go.Proofs.YtdifknecndlklaaGreatDoor
