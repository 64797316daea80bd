/- The compact protocol over a memory buffer: its state, and bytes written directly. -/
import Derived.Test.YtdedkoahfailcaaGreatDoorBW3
import Derived.Test.YtdedkoahfailcaaGreatDoorMap
namespace Go.Proofs.YtdedkoahfailcaaGreatDoor
open Go Go.RowKit

abbrev TCP : TypeId := 126
abbrev TI : TypeId := 3

/-- The compact protocol's own state: the ids of the structs around, the last id, a bool's field that waits, a bool that was read ahead. -/
structure CSt where
  stack : List Int
  last : Int
  pend : Bool
  pid : Int
  pnm : ByteArray
  bv : Bool
  bn : Bool

/-- The fields ahead of the array. -/
def hdC (m : Nat) (cf sv : Value) (s : CSt) : List Value :=
  [memI m, memI m, cf, sv, .int .i64 s.last, .string s.pnm, .int .i16 s.pid, .bool s.pend, .bool s.bv, .bool s.bn]

/-- A compact protocol in block p over the memory buffer m. -/
structure CP (w : World) (p m b : Nat) (cf : Value) (s : CSt) (T : Nat) (z : Bool) (l : List UInt8) : Prop where
  arr : ∃ sv buf, buf.length = 64 ∧ Arr w p TCP (hdC m cf sv s) buf ∧ w.ownsRow 0 TI 1 sv s.stack.length (s.stack.map (.int .i64))
  mem : Mem w m b
  buf : Buf w b T z l

/-- The row of the ids. -/
def SF (w : World) (p k : Nat) : Prop := ∃ n c, w.cell? ⟨p, 3, none⟩ = some (.slice (some ⟨k, 0, none⟩) n c)
/-- Its blocks that turn. -/
def CPF (w : World) (p b : Nat) : Nat → Prop := fun k => k = p ∨ BF w b k ∨ SF w p k

/-- What a writing method leaves. -/
def CW (w : World) (p m b : Nat) (cf : Value) (_s s' : CSt) (T : Nat) (l news : List UInt8) (v : Value) (e : Ending) (w' : World) : Prop :=
  e = .returned v ∧ CP w' p m b cf s' (T + news.length) true (l ++ news) ∧ Fr (CPF w p b) (CPF w' p b) w w'

theorem SF.tag {w : World} {p k : Nat} {m : Nat} {cf sv : Value} {s : CSt} {bf : List UInt8} (ha : Arr w p TCP (hdC m cf sv s) bf) (ho : w.ownsRow 0 TI 1 sv s.stack.length (s.stack.map (.int .i64))) (h : SF w p k) : ∃ cs, w.heap[k]? = some (.cells cs TI (0, 0)) := by
  obtain ⟨n, c, h⟩ := h
  rw [ha.head 3 sv rfl] at h
  injection h with h
  subst h
  rcases ho.2 with ⟨h, _⟩ | ⟨g, cap, cur, h, _, hg, _⟩
  · cases h
  · injection h with h1 h2 h3
    injection h1 with h1
    injection h1 with h1
    subst h1
    exact ⟨cur, hg⟩
theorem SF.of_same {w w' : World} {p k : Nat} (h : w'.heap[p]? = w.heap[p]?) : SF w' p k ↔ SF w p k := by
  unfold SF
  rw [World.cell?_of_block (a := ⟨p, 3, none⟩) h]

theorem CPF.tag {w : World} {p m b T : Nat} {cf : Value} {s : CSt} {z : Bool} {l : List UInt8} (h : CP w p m b cf s T z l) {k : Nat} (hk : CPF w p b k) : ∃ cs t, w.heap[k]? = some (.cells cs t (0, 0)) ∧ (t = TCP ∨ t = TB ∨ t = U8 ∨ t = TI) := by
  obtain ⟨sv, bf, hbf, ha, ho⟩ := h.arr
  rcases hk with rfl | hk | hk
  · exact ⟨_, _, ha, Or.inl rfl⟩
  · obtain ⟨cs, t, h1, h2⟩ := h.buf.tag hk
    exact ⟨cs, t, h1, Or.inr (h2.elim Or.inl fun x => Or.inr (Or.inl x))⟩
  · obtain ⟨cs, h1⟩ := hk.tag ha ho
    exact ⟨cs, _, h1, Or.inr (Or.inr (Or.inr rfl))⟩
theorem CPF.lt {w : World} {p m b T : Nat} {cf : Value} {s : CSt} {z : Bool} {l : List UInt8} (h : CP w p m b cf s T z l) {k : Nat} (hk : CPF w p b k) : k < w.heap.size := by
  obtain ⟨cs, t, h1, _⟩ := CPF.tag h hk; exact lt_heap h1
theorem CP.trans {w : World} {p m b T : Nat} {cf : Value} {s : CSt} {z : Bool} {l : List UInt8} (h : CP w p m b cf s T z l) : w.cell? ⟨p, 0, none⟩ = some (memI m) := by
  obtain ⟨sv, bf, _, ha, _⟩ := h.arr; exact ha.head 0 _ rfl

/-- The row of the ids, in a world in which it stands as it stood. -/
theorem owns_same {w w' : World} {sv : Value} {n : Nat} {xs : List Value} (h : w.ownsRow 0 TI 1 sv n xs) (hs : ∀ g, sv.ownBlock = some g → w'.heap[g]? = w.heap[g]?) : w'.ownsRow 0 TI 1 sv n xs := by
  refine ⟨h.1, ?_⟩
  rcases h.2 with h0 | ⟨g, cap, cur, hv, hb, hg, rest⟩
  · exact Or.inl h0
  · exact Or.inr ⟨g, cap, cur, hv, hb, (hs g (by rw [hv]; rfl)).trans hg, rest⟩

/-- The buffer alone has turned. -/
theorem CP.lift {w w' : World} {p m b T T' : Nat} {cf : Value} {s : CSt} {z z' : Bool} {l l' : List UInt8} (h : CP w p m b cf s T z l) (hb : Buf w' b T' z' l') (hf : Fr (BF w b) (BF w' b) w w') :
    CP w' p m b cf s T' z' l' ∧ Fr (CPF w p b) (CPF w' p b) w w' := by
  obtain ⟨⟨sv, bf, hbf, ha, ho⟩, ⟨sz, hm⟩, hB⟩ := h
  have hp : w'.heap[p]? = w.heap[p]? := hf.keep p (lt_heap ha) (hB.other ha (by decide) (by decide))
  refine ⟨⟨⟨sv, bf, hbf, hp.trans ha, owns_same ho fun g hg => ?_⟩, ⟨sz, hf.block hm (hB.other hm (by decide) (by decide))⟩, hb⟩, ?_⟩
  · rcases ho.2 with ⟨rfl, _⟩ | ⟨g', cap, cur, rfl, _, hgg, _⟩
    · cases hg
    · injection hg with hg
      subst hg
      exact hf.keep _ (lt_heap hgg) (hB.other hgg (by decide) (by decide))
  · refine ⟨hf.os, hf.tape, hf.output, hf.size, fun k hk hn => hf.keep k hk (fun x => hn (Or.inr (Or.inl x))), fun k hk hx => ?_⟩
    rcases hx with rfl | hx | hx
    · exact Or.inl rfl
    · exact Or.inr (Or.inl (hf.foot k hk hx))
    · exact Or.inr (Or.inr ((SF.of_same hp).1 hx))

/-- The struct's own block alone has turned: its head but the ids' slice, its array. -/
theorem CP.own {w w' : World} {p m b T : Nat} {cf : Value} {s s' : CSt} {z : Bool} {l : List UInt8} (h : CP w p m b cf s T z l) (hf : Fr (one p) (one p) w w') (hst : s'.stack = s.stack)
    (ha' : ∀ sv bf, bf.length = 64 → Arr w p TCP (hdC m cf sv s) bf → ∃ bf', bf'.length = 64 ∧ Arr w' p TCP (hdC m cf sv s') bf') :
    CP w' p m b cf s' T z l ∧ Fr (CPF w p b) (CPF w' p b) w w' := by
  obtain ⟨⟨sv, bf, hbf, ha, ho⟩, ⟨sz, hm⟩, hB⟩ := h
  obtain ⟨bf', hbf', ha2⟩ := ha' sv bf hbf ha
  have hne : ∀ {k : Nat} {cs : Array Value} {t : TypeId}, w.heap[k]? = some (.cells cs t (0, 0)) → t ≠ TCP → ¬ one p k := fun hk ht he => by
    have he : _ = p := he
    subst he
    exact tag_ne hk ha ht rfl
  have hbk : ∀ k, BF w b k → w'.heap[k]? = w.heap[k]? := fun k hk => by
    obtain ⟨cs, t, h1, h2⟩ := hB.tag hk
    exact hf.keep k (lt_heap h1) (hne h1 (by rcases h2 with rfl | rfl <;> decide))
  refine ⟨⟨⟨sv, bf', hbf', ha2, ?_⟩, ⟨sz, hf.block hm (hne hm (by decide))⟩, hB.same hbk⟩, ?_⟩
  · rw [hst]
    refine owns_same ho fun g hg => ?_
    rcases ho.2 with ⟨rfl, _⟩ | ⟨g', cap, cur, rfl, _, hgg, _⟩
    · cases hg
    · injection hg with hg
      subst hg
      exact hf.keep _ (lt_heap hgg) (hne hgg (by decide))
  · refine ⟨hf.os, hf.tape, hf.output, hf.size, fun k hk hn => hf.keep k hk (fun x => hn (Or.inl x)), fun k hk hx => ?_⟩
    rcases hx with rfl | hx | ⟨n, c, hx⟩
    · exact Or.inl rfl
    · exact Or.inr (Or.inl ((BF.of_same (hbk b (Or.inl rfl))).1 hx))
    · rw [ha2.head 3 sv rfl] at hx
      exact Or.inr (Or.inr ⟨n, c, (ha.head 3 sv rfl).trans hx⟩)

theorem CP.drew {w : World} {p m b T : Nat} {cf : Value} {s : CSt} {z : Bool} {l : List UInt8} (h : CP w p m b cf s T z l) : CP w.drew p m b cf s T z l := ⟨h.arr, h.mem, h.buf⟩

theorem CP.alloc {w : World} {p m b T : Nat} {cf : Value} {s : CSt} {z : Bool} {l : List UInt8} (h : CP w p m b cf s T z l) (o : Obj) : CP (w.alloc o) p m b cf s T z l ∧ Fr (CPF w p b) (CPF (w.alloc o) p b) w (w.alloc o) := by
  obtain ⟨⟨sv, bf, hbf, ha, ho⟩, ⟨sz, hm⟩, hB⟩ := h
  have hb : (w.alloc o).heap[b]? = w.heap[b]? := Below.heap_alloc w o b hB.lt
  have hp : (w.alloc o).heap[p]? = w.heap[p]? := Below.heap_alloc w o p (lt_heap ha)
  refine ⟨⟨⟨sv, bf, hbf, alloc_at ha, ho.alloc o⟩, ⟨sz, alloc_at hm⟩, hB.same fun k hk => Below.heap_alloc w o k (hB.foot_lt hk)⟩, ((Fr.refl _ w).alloc o).conv fun k _ hk => ?_⟩
  rcases hk with rfl | hk | hk
  · exact Or.inl rfl
  · exact Or.inr (Or.inl ((BF.of_same hb).1 hk))
  · exact Or.inr (Or.inr ((SF.of_same hp).1 hk))

/-- Two writings, one behind the other. -/
theorem CW.seq {w w1 w2 : World} {p m b T : Nat} {cf v1 v2 : Value} {s s1 s2 : CSt} {l n1 n2 : List UInt8} {e1 e2 : Ending} (h1 : CW w p m b cf s s1 T l n1 v1 e1 w1) (h2 : CW w1 p m b cf s1 s2 (T + n1.length) (l ++ n1) n2 v2 e2 w2) : CW w p m b cf s s2 T l (n1 ++ n2) v2 e2 w2 := by
  obtain ⟨_, a1, f1⟩ := h1
  obtain ⟨he, a2, f2⟩ := h2
  refine ⟨he, ?_, f1.trans f2⟩
  rw [List.length_append, ← Nat.add_assoc, ← List.append_assoc]
  exact a2

set_option maxHeartbeats 1000000
set_option maxRecDepth 100000

theorem C_writeByteDirect (p m b T : Nat) (cf : Value) (s : CSt) (l : List UInt8) (u : UInt8) (w : World) (h : CP w p m b cf s T true l) (hlim : T + 1 ≤ LIM) :
    Calls Tryz.prog 178 #[.pointer (some ⟨p, 0, none⟩), .int .u8 u.toNat] w (CW w p m b cf s s T l [u] .nilIface) := by
  have c0 := h.trans
  have hme := meth_WriteByte h.mem.cell
  have H := Lib.hid h
  have HL := Lib.hid hlim
  clear h hlim
  go_enter Tryz.func178, Tryz.ntmps178
  go_wp2_with fail
  refine (Buf_WriteByte b T l u _ H.out.buf HL.out).mono ?_
  rintro e w1 ⟨rfl, hB, hF⟩
  have HX := Lib.hid (H.out.lift hB hF)
  clear hB hF
  go_wp2
  go_ret
  exact ⟨rfl, HX.out.1, HX.out.2⟩

theorem C_WriteByte (p m b T : Nat) (cf c : Value) (s : CSt) (l : List UInt8) (v : Int) (w : World) (h : CP w p m b cf s T true l) (hlim : T + 1 ≤ LIM) :
    Calls Tryz.prog 143 #[.pointer (some ⟨p, 0, none⟩), c, .int .i8 v] w (CW w p m b cf s s T l [b8 v] .nilIface) := by
  have hu : v % 256 = ((b8 v).toNat : Int) := by
    unfold b8
    have : ((v % 256).toNat).toUInt8.toNat = (v % 256).toNat % 256 := by simp [Nat.toUInt8, UInt8.toNat_ofNat']
    rw [this]; omega
  have H := Lib.hid h
  have HL := Lib.hid hlim
  have HU := Lib.hid hu
  clear h hlim hu
  go_enter Tryz.func143, Tryz.ntmps143
  go_wp2_with fail
  rw [HU.out]
  refine (C_writeByteDirect p m b T cf s l _ w H.out HL.out).mono ?_
  rintro e w1 hw
  obtain rfl := hw.1
  have HW := Lib.hid hw
  clear hw
  go_wp2_with (go_at_call 163; refine (exc_nil _).mono ?_; rintro e w' ⟨rfl, rfl⟩)
  go_ret
  exact HW.out

theorem C_WriteFieldStop (p m b T : Nat) (cf c : Value) (s : CSt) (l : List UInt8) (w : World) (h : CP w p m b cf s T true l) (hlim : T + 1 ≤ LIM) :
    Calls Tryz.prog 147 #[.pointer (some ⟨p, 0, none⟩), c] w (CW w p m b cf s s T l [0] .nilIface) := by
  have H1 := Lib.hid (C_writeByteDirect p m b T cf s l 0 w h hlim)
  clear h hlim
  go_enter Tryz.func147, Tryz.ntmps147
  go_wp2_with fail
  refine H1.out.mono ?_
  rintro e w1 hw
  obtain rfl := hw.1
  have HW := Lib.hid hw
  clear hw
  go_wp2_with (go_at_call 163; refine (exc_nil _).mono ?_; rintro e w' ⟨rfl, rfl⟩)
  go_ret
  exact HW.out

theorem C_WriteFieldEnd (p : Value) (c : Value) (w : World) : Calls Tryz.prog 146 #[p, c] w fun e w' => e = .returned .nilIface ∧ w = w' := by
  go_enter Tryz.func146, Tryz.ntmps146
  go_wp2
  go_ret
  exact ⟨rfl, rfl⟩
theorem C_WriteMapEnd (p : Value) (c : Value) (w : World) : Calls Tryz.prog 154 #[p, c] w fun e w' => e = .returned .nilIface ∧ w = w' := by
  go_enter Tryz.func154, Tryz.ntmps154
  go_wp2
  go_ret
  exact ⟨rfl, rfl⟩
theorem C_WriteListEnd (p : Value) (c : Value) (w : World) : Calls Tryz.prog 152 #[p, c] w fun e w' => e = .returned .nilIface ∧ w = w' := by
  go_enter Tryz.func152, Tryz.ntmps152
  go_wp2
  go_ret
  exact ⟨rfl, rfl⟩
theorem C_WriteSetEnd (p : Value) (c : Value) (w : World) : Calls Tryz.prog 156 #[p, c] w fun e w' => e = .returned .nilIface ∧ w = w' := by
  go_enter Tryz.func156, Tryz.ntmps156
  go_wp2
  go_ret
  exact ⟨rfl, rfl⟩
end Go.Proofs.YtdedkoahfailcaaGreatDoor
