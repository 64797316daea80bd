/- The thin package writes whatever step. The thin package writes steps, one behind the other. The binary protocol over a memory buffer, as a protocol that is written to. impl.Write by the binary protocol: steps over a new buffer, the bytes and the kinds. -/
import Derived.Maps.AppendAt
import Derived.Outline
import Derived.Test.YtdifknecndlklaaGreatDoorZWs
import Derived.Test.YtdifknecndlklaaGreatDoorZWsB
import Derived.Test.YtdifknecndlklaaGreatDoorZ4
import Derived.Test.YtdifknecndlklaaGreatDoorZ2
import Derived.Test.YtdifknecndlklaaGreatDoorZ5
import Derived.Test.YtdifknecndlklaaGreatDoorZ3
set_option linter.all false
namespace Go.Proofs.YtdifknecndlklaaGreatDoor
open Go Go.RowKit
set_option maxHeartbeats 1000000
set_option maxRecDepth 100000

/-- A step: its numbers, its slice, and the bytes that the slice reads as. -/
structure Stp where
  op : Int
  t : Int
  k : Int
  sz : Int
  id : Int
  n : Int
  v : Value
  s : List UInt8
abbrev Stp.cells (x : Stp) : Array Value := stepA x.op x.t x.k x.sz x.id x.n x.v
abbrev Stp.val (x : Stp) : Value := .agg x.cells

/-- The call that a step makes. -/
def Stp.wop (x : Stp) : Option WOp :=
  match x.op with
  | 0 => some (.msgBegin (strOf x.s) (IntKind.i32.wrap x.t) (IntKind.i32.wrap x.n)) | 1 => some .msgEnd | 2 => some .structBegin | 3 => some .structEnd
  | 4 => some (.fieldBegin (x.t % 256) (IntKind.i16.wrap x.id)) | 5 => some .fieldEnd | 6 => some .fieldStop
  | 7 => some (.mapBegin (x.k % 256) (x.t % 256) x.sz) | 8 => some .mapEnd | 9 => some (.listBegin (x.t % 256) x.sz) | 10 => some .listEnd | 11 => some (.setBegin (x.t % 256) x.sz) | 12 => some .setEnd
  | 13 => some (.bool (x.n != 0)) | 14 => some (.byte (IntKind.i8.wrap x.n)) | 15 => some (.i16 (IntKind.i16.wrap x.n)) | 16 => some (.i32 (IntKind.i32.wrap x.n)) | 17 => some (.i64 x.n)
  | 18 => some (.double (IntKind.u64.wrap x.n).toNat) | 19 => some (.string (strOf x.s)) | 20 => some (.binary x.v x.s) | 21 => some (.uuid (pad16 x.s))
  | _ => none

theorem wop_none {x : Stp} (h : x.op < 0 ∨ 21 < x.op) : x.wop = none := by
  unfold Stp.wop
  split <;> first | omega | rfl

variable {S : Type} (P : WProto S) (hP : P.Ok)
/-- A step turns the state. -/
def wstep (s : S) (x : Stp) : S := match x.wop with
  | some op => P.step s op
  | none => s
def wgood (s : S) (x : Stp) : Prop := match x.wop with
  | some op => P.good s op
  | none => True

include hP
theorem I_begin_other (w : World) (s : S) (op t k sz id n : Int) (vS : Value) (h : P.I w s) (ho : op < 0 ∨ 12 < op) :
    Calls Tryz.prog 85 #[.iface P.T P.recv, .agg (stepA op t k sz id n vS)] w (WR P w s) := by
  have hq := hP.quiet h ((Fr.refl noF w).alloc (.cells (stepA op t k sz id n vS) 55 (0, 0)))
  have n0 : (op == 0) = false := beq_eq_false_iff_ne.2 (by omega)
  have n1 : (op == 1) = false := beq_eq_false_iff_ne.2 (by omega)
  have n2 : (op == 2) = false := beq_eq_false_iff_ne.2 (by omega)
  have n3 : (op == 3) = false := beq_eq_false_iff_ne.2 (by omega)
  have n4 : (op == 4) = false := beq_eq_false_iff_ne.2 (by omega)
  have n5 : (op == 5) = false := beq_eq_false_iff_ne.2 (by omega)
  have n6 : (op == 6) = false := beq_eq_false_iff_ne.2 (by omega)
  have n7 : (op == 7) = false := beq_eq_false_iff_ne.2 (by omega)
  have n8 : (op == 8) = false := beq_eq_false_iff_ne.2 (by omega)
  have n9 : (op == 9) = false := beq_eq_false_iff_ne.2 (by omega)
  have n10 : (op == 10) = false := beq_eq_false_iff_ne.2 (by omega)
  have n11 : (op == 11) = false := beq_eq_false_iff_ne.2 (by omega)
  have n12 : (op == 12) = false := beq_eq_false_iff_ne.2 (by omega)
  have HQ := Lib.hid hq
  obtain ⟨PT, hPT⟩ : ∃ f, f = P.T := ⟨_, rfl⟩
  obtain ⟨r, hr⟩ : ∃ f, f = P.recv := ⟨_, rfl⟩
  rw [← hPT, ← hr]
  clear hq hP h ho hPT hr
  go_enter Tryz.func85, Tryz.ntmps85
  go_wp2
  go_ret
  exact ⟨rfl, HQ.out.1, HQ.out.2.2⟩

theorem I_write_begin (w : World) (s s' : S) (op t k sz id n : Int) (vS : Value) (h : P.I w s) (ho : op < 13 ∨ 21 < op)
    (hb : ∀ W, Fr noF noF w W → P.I W s → (∀ k, P.F W k → P.F w k) → Calls Tryz.prog 85 #[.iface P.T P.recv, .agg (stepA op t k sz id n vS)] W (WR P W s')) :
    Calls Tryz.prog 72 #[.iface P.T P.recv, .agg (stepA op t k sz id n vS)] w (WR P w s') := by
  have hf : Fr noF noF w (w.alloc (.cells (stepA op t k sz id n vS) 55 (0, 0))) := (Fr.refl noF w).alloc _
  have hq := hP.quiet h hf
  have hc : Calls Tryz.prog 85 #[.iface P.T P.recv, .agg (stepA op t k sz id n vS)] (w.alloc (.cells (stepA op t k sz id n vS) 55 (0, 0))) (fun e w' => e = .returned .nilIface ∧ WR P w s' e w') :=
    (hb _ hf hq.1 hq.2.1).mono fun e w' hw => ⟨hw.1, hw.1, hw.2.1, hq.2.2.trans hw.2.2⟩
  have n13 : (op == 13) = false := beq_eq_false_iff_ne.2 (by omega)
  have n14 : (op == 14) = false := beq_eq_false_iff_ne.2 (by omega)
  have n15 : (op == 15) = false := beq_eq_false_iff_ne.2 (by omega)
  have n16 : (op == 16) = false := beq_eq_false_iff_ne.2 (by omega)
  have n17 : (op == 17) = false := beq_eq_false_iff_ne.2 (by omega)
  have n18 : (op == 18) = false := beq_eq_false_iff_ne.2 (by omega)
  have n19 : (op == 19) = false := beq_eq_false_iff_ne.2 (by omega)
  have n20 : (op == 20) = false := beq_eq_false_iff_ne.2 (by omega)
  have n21 : (op == 21) = false := beq_eq_false_iff_ne.2 (by omega)
  have HC := Lib.hid hc
  obtain ⟨PT, hPT⟩ : ∃ f, f = P.T := ⟨_, rfl⟩
  obtain ⟨r, hr⟩ : ∃ f, f = P.recv := ⟨_, rfl⟩
  rw [← hPT, ← hr] at HC
  rw [← hPT, ← hr]
  clear hq hP h ho hPT hr hc hb hf
  go_enter Tryz.func72, Tryz.ntmps72
  go_wp2_with fail
  refine HC.out.mono ?_
  rintro e w1 ⟨rfl, hw⟩
  have HX := Lib.hid hw
  clear hw
  go_wp2
  go_ret
  exact HX.out

theorem I_write_any (x : Stp) (w : World) (s : S) (hv : Rd w x.v x.s) (hb : ∀ k, vblk x.v k → ¬ P.F w k) (hl : x.s.length ≤ maxLen) (h : P.I w s) (hg : wgood P s x) :
    Calls Tryz.prog 72 #[.iface P.T P.recv, x.val] w (WR P w (wstep P s x)) := by
  obtain ⟨op, t, k, sz, id, n, v, l⟩ := x
  have hlow : ∀ s', (∀ W, Fr noF noF w W → P.I W s → (∀ k, P.F W k → P.F w k) → Rd W v l → (∀ k, vblk v k → ¬ P.F W k) → Calls Tryz.prog 85 #[.iface P.T P.recv, .agg (stepA op t k sz id n v)] W (WR P W s')) → (op < 13 ∨ 21 < op) →
      Calls Tryz.prog 72 #[.iface P.T P.recv, .agg (stepA op t k sz id n v)] w (WR P w s') := fun s' hc ho =>
    I_write_begin P hP w s s' op t k sz id n v h ho fun W hf hI hF => hc W hf hI hF (hv.keep hf fun _ _ x => x) fun k hk hx => hb k hk (hF k hx)
  rcases (show op < 0 ∨ 21 < op ∨ op = 0 ∨ op = 1 ∨ op = 2 ∨ op = 3 ∨ op = 4 ∨ op = 5 ∨ op = 6 ∨ op = 7 ∨ op = 8 ∨ op = 9 ∨ op = 10 ∨ op = 11 ∨ op = 12 ∨ op = 13 ∨ op = 14 ∨ op = 15 ∨ op = 16 ∨ op = 17 ∨ op = 18 ∨ op = 19 ∨ op = 20 ∨ op = 21 by omega) with ho | ho | rfl | rfl | rfl | rfl | rfl | rfl | rfl | rfl | rfl | rfl | rfl | rfl | rfl | rfl | rfl | rfl | rfl | rfl | rfl | rfl | rfl | rfl
  · have e : wstep P s ⟨op, t, k, sz, id, n, v, l⟩ = s := by
      unfold wstep
      rw [wop_none (by first | exact Or.inl ho | exact Or.inr ho)]
    rw [e]
    exact hlow s (fun W _ hI _ _ _ => I_begin_other P hP W s op t k sz id n v hI (by omega)) (by omega)
  · have e : wstep P s ⟨op, t, k, sz, id, n, v, l⟩ = s := by
      unfold wstep
      rw [wop_none (by first | exact Or.inl ho | exact Or.inr ho)]
    rw [e]
    exact hlow s (fun W _ hI _ _ _ => I_begin_other P hP W s op t k sz id n v hI (by omega)) (by omega)
  · exact hlow _ (fun W _ hI _ h1 h2 => I_begin0 P hP W s t k sz id n v l h1 h2 hl hI hg) (by omega)
  · exact hlow _ (fun W _ hI _ _ _ => I_begin1 P hP W s t k sz id n v hI hg) (by omega)
  · exact hlow _ (fun W _ hI _ _ _ => I_begin2 P hP W s t k sz id n v hI hg) (by omega)
  · exact hlow _ (fun W _ hI _ _ _ => I_begin3 P hP W s t k sz id n v hI hg) (by omega)
  · exact hlow _ (fun W _ hI _ _ _ => I_begin4 P hP W s t k sz id n v hI hg) (by omega)
  · exact hlow _ (fun W _ hI _ _ _ => I_begin5 P hP W s t k sz id n v hI hg) (by omega)
  · exact hlow _ (fun W _ hI _ _ _ => I_begin6 P hP W s t k sz id n v hI hg) (by omega)
  · exact hlow _ (fun W _ hI _ _ _ => I_begin7 P hP W s t k sz id n v hI hg) (by omega)
  · exact hlow _ (fun W _ hI _ _ _ => I_begin8 P hP W s t k sz id n v hI hg) (by omega)
  · exact hlow _ (fun W _ hI _ _ _ => I_begin9 P hP W s t k sz id n v hI hg) (by omega)
  · exact hlow _ (fun W _ hI _ _ _ => I_begin10 P hP W s t k sz id n v hI hg) (by omega)
  · exact hlow _ (fun W _ hI _ _ _ => I_begin11 P hP W s t k sz id n v hI hg) (by omega)
  · exact hlow _ (fun W _ hI _ _ _ => I_begin12 P hP W s t k sz id n v hI hg) (by omega)
  · exact I_write13 P hP w s t k sz id n v h hg
  · exact I_write14 P hP w s t k sz id n v h hg
  · exact I_write15 P hP w s t k sz id n v h hg
  · exact I_write16 P hP w s t k sz id n v h hg
  · exact I_write17 P hP w s t k sz id n v h hg
  · exact I_write18 P hP w s t k sz id n v h hg
  · exact I_write19 P hP w s t k sz id n v l hv hb hl h hg
  · exact I_write20 P hP w s t k sz id n v l hv hb h hg
  · exact I_write21 P hP w s t k sz id n v l hv h hg
end Go.Proofs.YtdifknecndlklaaGreatDoor
namespace Go.Proofs.YtdifknecndlklaaGreatDoor
open Go Go.RowKit
set_option maxHeartbeats 2000000
set_option maxRecDepth 100000

/-- A slice of steps, beside the blocks F. -/
def RdS (w : World) (F : Nat → Prop) (v : Value) (xs : List Stp) : Prop :=
  (∃ a c, v = .slice a 0 c ∧ xs = []) ∨
  ∃ g o c, v = .slice (some ⟨g, o, none⟩) xs.length c ∧ xs.length ≤ c ∧ c ≤ maxLen ∧ ¬ F g ∧ ∀ j x, xs[j]? = some x →
    (∀ i u, x.cells[i]? = some u → w.cell? ⟨g, o + j * 7 + i, none⟩ = some u) ∧ Rd w x.v x.s ∧ (∀ k, vblk x.v k → ¬ F k) ∧ x.s.length ≤ maxLen
theorem OwnI.stay {w w' : World} {base : Nat} {v : Value} {l : List Int} {F F' : Nat → Prop} (h : OwnI w base v l) (hf : Fr F F' w w') (hn : ∀ k, v.ownBlock = some k → ¬ F k) : OwnI w' base v l := by
  obtain ⟨h0, h | ⟨g, cap, cur, rfl, hb, hg, h1, h2, h3, h4⟩⟩ := h
  · exact ⟨h0, Or.inl h⟩
  · exact ⟨h0, Or.inr ⟨g, cap, cur, rfl, hb, hf.block hg (hn g rfl), h1, h2, h3, h4⟩⟩

/-- Numbers appended: where the new slice lies is told. -/
theorem append_ints_at {w : World} {ops : Array Oper} {rest : List Oper} {o : Oper} {a : Act} {Q : Exit → Act → World → Prop} (hgd : o.guard = none) (s x : Operand)
    (ho : o.op = .call { callee := .builtin .append, args := #[s, x], argTypes := #[36, 36] })
    (base : Nat) (v vx : Value) (L l : List Int) (hs : a.eval s = v) (hown : OwnI w base v L) (hx : a.eval x = vx) (ad : Addr) (c : Nat) (hv : vx = .slice (some ad) l.length c) (hr : ∀ j u, (icells l)[j]? = some u → w.cell? (ad.add j) = some u) (hb : L.length + l.length ≤ 1000000000) (hbase : base ≤ w.heap.size)
    (h : ∀ v' w', OwnI w' base v' (L ++ l) → w.grownBy w' v.ownBlock → (v'.ownBlock = v.ownBlock ∨ v'.ownBlock = some w.heap.size) → wpList Tryz.prog ops Q rest (a.put o.dst v') w') : wpList Tryz.prog ops Q (o :: rest) a w := by
  obtain ⟨i0, hi, hz0, hz1, hz2⟩ := info_parts info_int
  subst hv
  refine wpList_append_own_at w hgd s x 36 ho base TInt i0 (.int .i64 0) 1 8 Tryz.underlying36 hi hz0 hz1 hz2 rfl (by decide) v L.length (icells L) hs hown ad l.length c (icells l) hx (by simp [icells]) hr (fun u hu => ?_) (by unfold maxLen; omega) (by omega) hbase ?_
  · simp only [icells, List.mem_map] at hu
    obtain ⟨y, _, rfl⟩ := hu
    rfl
  · intro v' w' h1 h2 _ h4
    refine h v' w' ?_ h2 h4
    unfold OwnI icells
    rw [List.length_append, List.map_append]
    exact h1

variable {S : Type} (P : WProto S) (hP : P.Ok)
/-- What stands while steps are written: kinds v, all of them 0. -/
structure WL (w0 : World) (s : S) (k : Nat) (v : Value) (w : World) : Prop where
  I : P.I w s
  fr : Fr (P.F w0) (P.F w) w0 w
  own : OwnI w w0.heap.size v (List.replicate k 0)
  apart : ∀ g, v.ownBlock = some g → ¬ P.F w g

include hP
/-- A step has been written, and its kind is behind the others. -/
theorem WL.next {w0 w w1 w2 : World} {s s' : S} {k : Nat} {v v' : Value} {o : Obj} (h : WL P w0 s k v w) (h1 : P.I w1 s') (hf : Fr (P.F w) (P.F w1) w w1)
    (hown : OwnI w2 w0.heap.size v' (List.replicate k 0 ++ [0])) (hg : (w1.alloc o).grownBy w2 v.ownBlock) (hat : v'.ownBlock = v.ownBlock ∨ v'.ownBlock = some (w1.alloc o).heap.size) : WL P w0 s' (k + 1) v' w2 := by
  have hlt := h.own.lt
  obtain ⟨h2, h3, h4⟩ := hP.quiet h1 ((Fr.refl noF w1).alloc o)
  have ha : ∀ g, v.ownBlock = some g → ¬ P.F w1 g := fun g hv hx => h.apart g hv (hf.foot g (hlt g hv).2 hx)
  have hG : Fr (fun g => v.ownBlock = some g) (fun g => v.ownBlock = some g) (w1.alloc o) w2 := ⟨hg.os, hg.tape, hg.output, hg.size, fun g hlt' hn => hg.block g hlt' fun e => hn e.symm, fun _ _ hx => hx⟩
  obtain ⟨h5, h6⟩ := hP.keep h2 hG fun g hx hv => ha g hv (h3 g hx)
  have hbig : w0.heap.size ≤ w.heap.size := h.fr.size
  refine ⟨h5, ?_, by rw [List.replicate_succ']; exact hown, fun g hv hx => ?_⟩
  · have e1 := h.fr.trans (hf.trans h4)
    refine ⟨hg.os.trans e1.os, hg.tape.trans e1.tape, hg.output.trans e1.output, Nat.le_trans e1.size hg.size, fun g hk hn => (hg.block g (Nat.lt_of_lt_of_le hk e1.size) fun e => ?_).trans (e1.keep g hk hn), fun g hk hx => e1.foot g hk (h6 g hx)⟩
    have := (hlt g e.symm).1
    omega
  · rcases hat with hat | hat
    · rw [hat] at hv
      exact ha g hv (h3 g (h6 g hx))
    · rw [hat] at hv
      injection hv with hv
      have := hP.lt h2 (h6 g hx)
      omega

theorem I_writes (v : Value) (xs : List Stp) (s : S) (w : World) (h : P.I w s) (hv : RdS w (P.F w) v xs) (hn : xs.length ≤ 100000000) (hg : ∀ k x, xs[k]? = some x → wgood P ((xs.take k).foldl (wstep P) s) x) :
    Calls Tryz.prog 52 #[.iface P.T P.recv, v] w (fun e w' => ∃ kv, e = .returned kv ∧ WL P w (xs.foldl (wstep P) s) xs.length kv w') := by
  have hstep : ∀ k x kv w1 w2, xs[k]? = some x → WL P w ((xs.take k).foldl (wstep P) s) k kv w1 → Fr noF noF w1 w2 → Calls Tryz.prog 72 #[.iface P.T P.recv, x.val] w2 (fun e w3 => e = .returned .nilIface ∧ P.I w3 ((xs.take (k + 1)).foldl (wstep P) s) ∧ Fr (P.F w1) (P.F w3) w1 w3 ∧ OwnI w3 w.heap.size kv (List.replicate k 0)) := by
    intro k x kv w1 w2 hk hW hf2
    rcases hv with ⟨a, c, rfl, rfl⟩ | ⟨g, o, c, rfl, hc, hm, hgF, hxs⟩
    · simp at hk
    obtain ⟨hcells, hrd, hblk, hlen⟩ := hxs k x hk
    obtain ⟨q1, q2, q3⟩ := hP.quiet hW.I hf2
    have hrd2 : Rd w2 x.v x.s := (hrd.keep hW.fr hblk).keep hf2 fun _ _ x => x
    refine (I_write_any P hP x w2 _ hrd2 (fun j hj hx => hblk j hj (hW.fr.foot j ?_ (q2 j hx))) hlen q1 (hg k x hk)).mono ?_
    · rcases hrd with ⟨e, _⟩ | ⟨q, n, cc, e, hn', _, _, hs⟩
      · rw [e] at hj; exact hj.elim
      · rw [e] at hj
        match n, hj, hn' with
        | n + 1, hj, hn' =>
          obtain ⟨u, hu⟩ : ∃ u, x.s[0]? = some u := ⟨_, List.getElem?_eq_getElem (by omega)⟩
          have := World.block_lt_of_cell? w _ (hs 0 u hu)
          rw [block_add'] at this
          exact hj ▸ this
    · rintro e w3 ⟨rfl, hI, hF⟩
      have e : (xs.take (k + 1)).foldl (wstep P) s = wstep P ((xs.take k).foldl (wstep P) s) x := by rw [List.take_add_one, hk, List.foldl_append]; rfl
      refine ⟨rfl, by rw [e]; exact hI, q3.trans hF, (hW.own.stay hf2 fun _ _ x => x).stay hF fun j hj hx => hW.apart j hj (q2 j hx)⟩
  have hcell : ∀ k x kv w1, xs[k]? = some x → WL P w ((xs.take k).foldl (wstep P) s) k kv w1 → ∀ g o c, v = .slice (some ⟨g, o, none⟩) xs.length c → (∀ i u, x.cells[i]? = some u → w1.cell? ⟨g, o + k * 7 + i, none⟩ = some u) := by
    intro k x kv w1 hk hW g o c he i u hi
    rcases hv with ⟨a, c', rfl, rfl⟩ | ⟨g', o', c', rfl, hc, hm, hgF, hxs⟩
    · simp at hk
    cases he
    exact hW.fr.cell ((hxs k x hk).1 i u hi) hgF
  have h0 : WL P w s 0 (.slice none 0 0) w := ⟨h, Fr.refl _ w, OwnI.nil w _, fun g hg => by cases hg⟩
  obtain ⟨a, n, c, hva, hnl⟩ : ∃ a n c, v = .slice a n c ∧ xs.length = n := by
    rcases hv with ⟨a, c, rfl, rfl⟩ | ⟨g, o, c, rfl, _⟩
    · exact ⟨_, _, _, rfl, rfl⟩
    · exact ⟨_, _, _, rfl, rfl⟩
  have hsome : ∀ (k : Nat) (x : Stp), xs[k]? = some x → ∃ (g o : Nat), a = some ⟨g, o, none⟩ := by
    intro k x hk
    rcases hv with ⟨a', c', _, rfl⟩ | ⟨g, o, c', he, _⟩
    · simp at hk
    · rw [hva] at he
      cases he
      exact ⟨g, o, rfl⟩
  have hslice : ∀ (k : Nat) (x : Stp), xs[k]? = some x → ∃ xa xn xc, x.v = .slice xa xn xc := by
    intro k x hk
    rcases hv with ⟨a', c', _, rfl⟩ | ⟨g, o, c', he, _, _, _, hxs⟩
    · simp at hk
    · obtain ⟨xa, xn, xc, h1, _⟩ := (hxs k x hk).2.1.len
      exact ⟨_, _, _, h1⟩
  subst hva
  have HL := Lib.hid hslice
  have HS := Lib.hid hstep
  have HC := Lib.hid hcell
  have HO := Lib.hid hsome
  have HN := Lib.hid hnl
  have H0 := Lib.hid h0
  obtain ⟨PT, hPT⟩ : ∃ f, f = P.T := ⟨_, rfl⟩
  obtain ⟨r, hr⟩ : ∃ f, f = P.recv := ⟨_, rfl⟩
  rw [← hPT, ← hr] at HS
  rw [← hPT, ← hr]
  rw [hnl] at hn
  clear hslice hstep hcell hsome hnl h0 hPT hr hv hg h
  go_enter Tryz.func52, Tryz.ntmps52
  go_wp2_with fail
  go_loopw [5, 10] (fun kv i wr => ∃ k : Nat, i = .int .i64 k ∧ k ≤ n ∧ WL P w ((xs.take k).foldl (wstep P) s) k kv wr) (fun _ i _ => n - (intOf i).toNat)
  case atStart => exact ⟨0, rfl, by omega, by simpa using H0.out⟩
  case round =>
    obtain ⟨k, rfl, hk, hW⟩ := hrel
    rcases Nat.lt_or_ge k n with hlt | hge
    · obtain ⟨x, hx⟩ : ∃ x, xs[k]? = some x := ⟨_, List.getElem?_eq_getElem (by rw [HN.out]; exact hlt)⟩
      obtain ⟨g, o, rfl⟩ := HO.out k x hx
      have hc := HC.out k x _ _ hx hW g o c (by rw [HN.out])
      have d0 : wr.cell? ⟨g, o + k * 7, none⟩ = some (.int .i64 x.op) := hc 0 _ rfl
      have d1 : wr.cell? ⟨g, o + k * 7 + 1, none⟩ = some (.int .i64 x.t) := hc 1 _ rfl
      have d2 : wr.cell? ⟨g, o + k * 7 + 2, none⟩ = some (.int .i64 x.k) := hc 2 _ rfl
      have d3 : wr.cell? ⟨g, o + k * 7 + 3, none⟩ = some (.int .i64 x.sz) := hc 3 _ rfl
      have d4 : wr.cell? ⟨g, o + k * 7 + 4, none⟩ = some (.int .i64 x.id) := hc 4 _ rfl
      have d5 : wr.cell? ⟨g, o + k * 7 + 5, none⟩ = some (.int .i64 x.n) := hc 5 _ rfl
      have d6 : wr.cell? ⟨g, o + k * 7 + 6, none⟩ = some (x.v) := hc 6 _ rfl
      obtain ⟨xa, xn, xc, hxv⟩ := HL.out k x hx
      rw [hxv] at d6
      have hval : x.val = .agg (stepA x.op x.t x.k x.sz x.id x.n (.slice xa xn xc)) := by rw [← hxv]
      have HV := Lib.hid hval
      clear hxv hval
      have hk0 : (0 : Int) ≤ (k : Int) := by omega
      have hk1 : (k : Int) < (n : Int) := by omega
      have HW := Lib.hid hW
      have HX := Lib.hid hx
      clear hW hc hx
      go_wp2_with fail
      have hcall := HS.out k x _ wr _ HX.out HW.out ((Fr.refl noF wr).alloc (.cells (stepA x.op x.t x.k x.sz x.id x.n (.slice xa xn xc)) 55 (0, 0)))
      rw [HV.out] at hcall
      refine hcall.mono ?_
      rintro e w3 ⟨rfl, hI, hF, hO⟩
      have HI := Lib.hid (And.intro hI (And.intro hF hO))
      clear hcall hI hF hO d0 d1 d2 d3 d4 d5 d6
      have hz : w.heap.size ≤ (w3.alloc (.cells #[.int .i64 0] TInt (0, 0))).heap.size := by
        have h1 := HW.out.fr.size
        have h2 := HI.out.2.1.size
        simp; omega
      have HZ := Lib.hid hz
      clear hz
      go_wp2_with (first | (go_at_call 41; refine (kind_nil _).mono ?_; rintro e w' ⟨rfl, rfl⟩) | (at_builtin; refine append_ints_at rfl _ _ rfl w.heap.size _ _ (List.replicate k 0) [0] rfl (own_alloc HI.out.2.2 _) rfl ⟨w3.heap.size, 0, none⟩ 1 rfl (cell_one_new _ _ _) (by simp; omega) HZ.out ?_))
      intro v' w4 hown hgrow hat
      have HY := Lib.hid (HW.out.next P hP HI.out.1 HI.out.2.1 hown hgrow (by simpa using hat))
      clear hown hgrow hat
      go_wp2_with fail
      go_roundw
      case rel => exact ⟨k + 1, by go_num, by omega, HY.out⟩
      case measure => simp [intOf]; omega
    · obtain rfl : k = n := by omega
      have e : xs.take k = xs := List.take_of_length_le (by rw [HN.out]; exact Nat.le_refl _)
      rw [e] at hW
      have HW := Lib.hid hW
      clear hW e
      have hkk : ¬ (k : Int) < (k : Int) := by omega
      go_wp2
      go_ret
      exact ⟨_, rfl, by rw [HN.out]; exact HW.out⟩
end Go.Proofs.YtdifknecndlklaaGreatDoor
namespace Go.Proofs.YtdifknecndlklaaGreatDoor
open Go Go.RowKit

/-- The bytes of a call by the binary protocol. -/
def WOp.binB (strict : Bool) : WOp → List UInt8
  | .msgBegin s t n => msgB strict s t n
  | .fieldBegin t i => b8 t :: be2 i
  | .fieldStop => [0]
  | .mapBegin k t n => b8 k :: b8 t :: be4 n
  | .listBegin t n => b8 t :: be4 n
  | .setBegin t n => b8 t :: be4 n
  | .bool v => [if v then 1 else 0]
  | .byte n => [b8 n]
  | .i16 n => be2 n
  | .i32 n => be4 n
  | .i64 n => be8 n
  | .double n => be8 n
  | .string s => be4 s.size ++ s.data.toList
  | .binary _ l => be4 l.length ++ l
  | .uuid l => l
  | _ => []

def BAll (w : World) (p m b : Nat) (cf : Value) (k : Nat) : Prop := BPF w p b k ∨ k = m ∨ CfF w cf k

/-- The protocol; its state: how many bytes its buffer has held, and which are unread. -/
def protoB (p m b : Nat) (cf : Value) (c : ConfV) : WProto (Nat × List UInt8) where
  T := PBP
  recv := .pointer (some ⟨p, 0, none⟩)
  fn n := match n with
    | "WriteMessageBegin" => 262 | "WriteMessageEnd" => 263 | "WriteStructBegin" => 267 | "WriteStructEnd" => 268
    | "WriteFieldBegin" => 252 | "WriteFieldEnd" => 253 | "WriteFieldStop" => 254
    | "WriteMapBegin" => 260 | "WriteMapEnd" => 261 | "WriteListBegin" => 258 | "WriteListEnd" => 259 | "WriteSetBegin" => 264 | "WriteSetEnd" => 265
    | "WriteBool" => 249 | "WriteByte" => 250 | "WriteI16" => 255 | "WriteI32" => 256 | "WriteI64" => 257 | "WriteDouble" => 251
    | "WriteString" => 266 | "WriteBinary" => 248 | "WriteUUID" => 269
    | _ => 0
  I w s := BP w p m b cf s.1 true s.2 ∧ Cfg w cf c
  F w k := BAll w p m b cf k
  step s op := (s.1 + (op.binB c.strictW).length, s.2 ++ op.binB c.strictW)
  good s op := s.1 + (op.binB c.strictW).length ≤ LIM

theorem BP.all {w w' : World} {p m b T : Nat} {cf : Value} {c : ConfV} {z : Bool} {l : List UInt8} (h : BP w p m b cf T z l) (hc : Cfg w cf c) (hf : Fr (BPF w p b) (BPF w' p b) w w') :
    Cfg w' cf c ∧ Fr (BAll w p m b cf) (BAll w' p m b cf) w w' := by
  obtain ⟨h1, h2⟩ := hc.same (w' := w') fun k hk => by
    obtain ⟨cs, t, hb, ht⟩ := hc.tagged hk
    refine hf.keep k (lt_heap hb) (h.notin hb ?_ ?_ ?_) <;> rcases ht with rfl | rfl <;> decide
  refine ⟨h1, hf.os, hf.tape, hf.output, hf.size, fun k hk hn => hf.keep k hk fun x => hn (Or.inl x), fun k hk hx => ?_⟩
  rcases hx with hx | hx | hx
  · exact Or.inl (hf.foot k hk hx)
  · exact Or.inr (Or.inl hx)
  · exact Or.inr (Or.inr (h2 k hx))

theorem protoB_ok (p m b : Nat) (cf : Value) (c : ConfV) : (protoB p m b cf c).Ok where
  meth op w := by cases op <;> kernel_rfl
  ahead op w := by cases op <;> kernel_rfl
  enter op xs w := by cases op <;> kernel_rfl
  call op w s h hg hfit := by
    obtain ⟨hB, hC⟩ := h
    have fin : ∀ {e w'}, BW w p m b cf s.1 s.2 (op.binB c.strictW) e w' → WR (protoB p m b cf c) w ((protoB p m b cf c).step s op) e w' := fun {e w'} hw => by
      obtain ⟨h1, h2⟩ := hB.all hC hw.2.2
      exact ⟨hw.1, ⟨hw.2.1, h1⟩, h2⟩
    have fin0 : ∀ {e w'}, op.binB c.strictW = [] → (e = .returned .nilIface ∧ w = w') → WR (protoB p m b cf c) w ((protoB p m b cf c).step s op) e w' := fun {e w'} h0 hw => by
      obtain ⟨rfl, rfl⟩ := hw
      exact fin (by rw [h0]; exact BW.refl hB)
    have hl : s.1 + (op.binB c.strictW).length ≤ LIM := hg
    cases op with
    | msgBegin a t n =>
      exact (B_WriteMessageBegin p m b s.1 cf _ c s.2 a t n w hB hC hl).mono fun _ _ hw => fin hw
    | msgEnd => exact (B_WriteMessageEnd _ _ w).mono fun _ _ hw => fin0 rfl hw
    | structBegin => exact (B_WriteStructBegin _ _ _ w).mono fun _ _ hw => fin0 rfl hw
    | structEnd => exact (B_WriteStructEnd _ _ w).mono fun _ _ hw => fin0 rfl hw
    | fieldBegin t i => exact (B_WriteFieldBegin p m b s.1 cf _ _ s.2 t i w hB (by simpa [WOp.binB, be2_length] using hl)).mono fun _ _ hw => fin hw
    | fieldEnd => exact (B_WriteFieldEnd _ _ w).mono fun _ _ hw => fin0 rfl hw
    | fieldStop => exact (B_WriteFieldStop p m b s.1 cf _ s.2 w hB (by simpa [WOp.binB] using hl)).mono fun _ _ hw => fin hw
    | mapBegin k t n => exact (B_WriteMapBegin p m b s.1 cf _ s.2 k t n w hB (by simpa [WOp.binB, be4_length] using hl)).mono fun _ _ hw => fin hw
    | mapEnd => exact (B_WriteMapEnd _ _ w).mono fun _ _ hw => fin0 rfl hw
    | listBegin t n => exact (B_WriteListBegin p m b s.1 cf _ s.2 t n w hB (by simpa [WOp.binB, be4_length] using hl)).mono fun _ _ hw => fin hw
    | listEnd => exact (B_WriteListEnd _ _ w).mono fun _ _ hw => fin0 rfl hw
    | setBegin t n => exact (B_WriteSetBegin p m b s.1 cf _ s.2 t n w hB (by simpa [WOp.binB, be4_length] using hl)).mono fun _ _ hw => fin hw
    | setEnd => exact (B_WriteSetEnd _ _ w).mono fun _ _ hw => fin0 rfl hw
    | bool v => exact (B_WriteBool p m b s.1 cf _ s.2 v w hB (by simpa [WOp.binB] using hl)).mono fun _ _ hw => fin hw
    | byte n => exact (B_WriteByte p m b s.1 cf _ s.2 n w hB (by simpa [WOp.binB] using hl)).mono fun _ _ hw => fin hw
    | i16 n => exact (B_WriteI16 p m b s.1 cf _ s.2 n w hB (by simpa [WOp.binB, be2_length] using hl)).mono fun _ _ hw => fin hw
    | i32 n => exact (B_WriteI32 p m b s.1 cf _ s.2 n w hB (by simpa [WOp.binB, be4_length] using hl)).mono fun _ _ hw => fin hw
    | i64 n => exact (B_WriteI64 p m b s.1 cf _ s.2 n w hB (by simpa [WOp.binB, be8_length] using hl)).mono fun _ _ hw => fin hw
    | double n => exact (B_WriteDouble p m b s.1 cf _ s.2 n w hB (by simpa [WOp.binB, be8_length] using hl)).mono fun _ _ hw => fin hw
    | string a =>
      have ha : a.data.toList.length = a.size := by rw [Array.length_toList]; rfl
      exact (B_WriteString p m b s.1 cf _ s.2 a w hB (by simp only [WOp.binB, List.length_append, be4_length, ha] at hl; omega)).mono fun _ _ hw => fin hw
    | binary v a =>
      refine (B_WriteBinary p m b s.1 cf _ v s.2 a w hB (by simp only [WOp.binB, List.length_append, be4_length] at hl; omega) hfit.1 fun k hk => ⟨fun hx => hfit.2 k hk (Or.inl hx), ?_⟩).mono fun _ _ hw => fin hw
      rcases hfit.1 with ⟨rfl, _⟩ | ⟨q, n, cc, rfl, hn, _, _, hs⟩
      · exact hk.elim
      · match n, hk with
        | n + 1, hk =>
          obtain ⟨u, hu⟩ : ∃ u, a[0]? = some u := ⟨_, List.getElem?_eq_getElem (by omega)⟩
          have := World.block_lt_of_cell? w _ (hs 0 u hu)
          rw [block_add'] at this
          exact hk ▸ this
    | uuid l => exact (B_WriteUUID p m b s.1 cf _ s.2 l w hB (by simp only [WOp.binB] at hl; have : l.length = 16 := hfit; omega) hfit).mono fun _ _ hw => fin hw
  keep h hf hn := by
    obtain ⟨hB, hC⟩ := h
    obtain ⟨h1, h2⟩ := hB.old hf (hn _ (Or.inr (Or.inl rfl))) fun k hk => hn k (Or.inl hk)
    obtain ⟨h3, h4⟩ := hC.same fun k hk => by
      obtain ⟨cs, t, hb, _⟩ := hC.tagged hk
      exact hf.keep k (lt_heap hb) (hn k (Or.inr (Or.inr hk)))
    refine ⟨⟨h1, h3⟩, fun k hk => ?_⟩
    rcases hk with hk | hk | hk
    · exact Or.inl (h2 k hk)
    · exact Or.inr (Or.inl hk)
    · exact Or.inr (Or.inr (h4 k hk))
  lt h hk := by
    obtain ⟨hB, hC⟩ := h
    rcases hk with hk | rfl | hk
    · exact BPF.lt hB hk
    · obtain ⟨sz, hm⟩ := hB.mem; exact lt_heap hm
    · obtain ⟨cs, t, hb, _⟩ := hC.tagged hk; exact lt_heap hb
end Go.Proofs.YtdifknecndlklaaGreatDoor
namespace Go.Proofs.YtdifknecndlklaaGreatDoor
open Go Go.RowKit
set_option maxHeartbeats 2000000
set_option maxRecDepth 100000

def Stp.binB (strict : Bool) (x : Stp) : List UInt8 := match x.wop with
  | some op => op.binB strict
  | none => []
theorem wstep_B (p m b : Nat) (cf : Value) (c : ConfV) (s : Nat × List UInt8) (x : Stp) : wstep (protoB p m b cf c) s x = (s.1 + (x.binB c.strictW).length, s.2 ++ x.binB c.strictW) := by
  unfold wstep Stp.binB
  cases x.wop <;> simp [protoB]
theorem wfold_B (p m b : Nat) (cf : Value) (c : ConfV) : ∀ (xs : List Stp) (s : Nat × List UInt8), xs.foldl (wstep (protoB p m b cf c)) s = (s.1 + (xs.flatMap (Stp.binB c.strictW)).length, s.2 ++ xs.flatMap (Stp.binB c.strictW))
  | [], s => by simp
  | x :: xs, s => by
    rw [List.foldl_cons, wstep_B, wfold_B p m b cf c xs]
    simp [List.append_assoc, Nat.add_assoc]
theorem wgood_B (p m b : Nat) (cf : Value) (c : ConfV) (xs : List Stp) (h : (xs.flatMap (Stp.binB c.strictW)).length ≤ LIM) (k : Nat) (x : Stp) (hx : xs[k]? = some x) :
    wgood (protoB p m b cf c) ((xs.take k).foldl (wstep (protoB p m b cf c)) (0, [])) x := by
  rw [wfold_B]
  unfold wgood
  split
  · rename_i op ho
    show 0 + ((xs.take k).flatMap (Stp.binB c.strictW)).length + (op.binB c.strictW).length ≤ LIM
    have e1 : (xs.take (k + 1)).flatMap (Stp.binB c.strictW) = (xs.take k).flatMap (Stp.binB c.strictW) ++ op.binB c.strictW := by
      rw [List.take_add_one, hx, List.flatMap_append]
      simp [Stp.binB, ho]
    have e2 : xs.flatMap (Stp.binB c.strictW) = (xs.take (k + 1)).flatMap (Stp.binB c.strictW) ++ (xs.drop (k + 1)).flatMap (Stp.binB c.strictW) := by rw [← List.flatMap_append, List.take_append_drop]
    rw [e2, List.length_append, e1, List.length_append] at h
    omega
  · trivial

/-- What Write leaves: the bytes, kinds of nothing but 0, both new. -/
def WriteR (w : World) (l : List UInt8) (n : Nat) (e : Ending) (w' : World) : Prop :=
  ∃ bv kv, e = .returned (.tuple #[bv, kv]) ∧ Rd w' bv l ∧ (∀ k, vblk bv k → w.heap.size ≤ k) ∧ OwnI w' w.heap.size kv (List.replicate n 0) ∧ Fr noF noF w w'

theorem RdS.new {w w' : World} {F' : Nat → Prop} {v : Value} {xs : List Stp} (h : RdS w noF v xs) (hf : Fr noF F' w w') : RdS w' F' v xs := by
  rcases h with h | ⟨g, o, c, rfl, hc, hm, _, hxs⟩
  · exact Or.inl h
  · by_cases h0 : xs = []
    · subst h0
      exact Or.inl ⟨_, _, rfl, rfl⟩
    refine Or.inr ⟨g, o, c, rfl, hc, hm, ?_, fun j x hj => ?_⟩
    · obtain ⟨x, hx⟩ : ∃ x, xs[0]? = some x := ⟨_, List.getElem?_eq_getElem (List.length_pos_iff.2 h0)⟩
      have := World.block_lt_of_cell? w _ ((hxs 0 x hx).1 0 _ rfl)
      exact fun hx => (hf.foot g this hx).elim
    · obtain ⟨h1, h2, _, h4⟩ := hxs j x hj
      refine ⟨fun i u hi => hf.cell (h1 i u hi) fun x => x, h2.keep hf fun _ _ x => x, fun k hk hx => ?_, h4⟩
      have hlt : k < w.heap.size := by
        rcases h2 with ⟨e, _⟩ | ⟨q, n, cc, e, hn', _, _, hs⟩
        · rw [e] at hk; exact hk.elim
        · rw [e] at hk
          match n, hk, hn' with
          | n + 1, hk, hn' =>
            obtain ⟨u, hu⟩ : ∃ u, x.s[0]? = some u := ⟨_, List.getElem?_eq_getElem (by omega)⟩
            have := World.block_lt_of_cell? w _ (hs 0 u hu)
            rw [block_add'] at this
            exact hk ▸ this
      exact hf.foot k hlt hx

/-- What stands when steps have been written into a new buffer. -/
structure WEnd (w w3 : World) (m b : Nat) (l : List UInt8) (n : Nat) (kv : Value) : Prop where
  mem : w3.cell? ⟨m, 0, none⟩ = some (.pointer (some ⟨b, 0, none⟩))
  buf : Buf w3 b l.length true l
  fr : Fr noF (BF w3 b) w w3
  own : OwnI w3 w.heap.size kv (List.replicate n 0)

theorem OwnI.lower {w : World} {base base' : Nat} {v : Value} {l : List Int} (h : OwnI w base v l) (hb : base' ≤ base) : OwnI w base' v l := by
  obtain ⟨h0, h | ⟨g, cap, cur, rfl, hbg, h⟩⟩ := h
  · exact ⟨h0, Or.inl h⟩
  · exact ⟨h0, Or.inr ⟨g, cap, cur, rfl, Nat.le_trans hb hbg, h⟩⟩

theorem write_prep (c : ConfV) (hc : c.proto ≠ 1) (v : Value) (xs : List Stp) (w W0 : World) (hv : RdS w noF v xs) (hn : xs.length ≤ 100000000) (hl : (xs.flatMap (Stp.binB c.strictW)).length ≤ LIM) (hf0 : Fr noF noF w W0)
    (m b : Nat) (w1 : World) (hm : Mem w1 m b) (hb : Buf w1 b 0 true []) (hf : Fr noF (BF w1 b) W0 w1) (hmn : W0.heap.size ≤ m) :
    Calls Tryz.prog 39 #[c.val, memI m] w1 (fun e w2 => ∃ p, e = .returned (binI p) ∧ Calls Tryz.prog 52 #[binI p, v] w2 (fun e w3 => ∃ kv, e = .returned kv ∧ WEnd w w3 m b (xs.flatMap (Stp.binB c.strictW)) xs.length kv)) := by
  have hf1 : Fr noF (BF w1 b) w w1 := hf0.trans hf
  refine (ProtB_raw m b 0 true [] c w1 hc hm hb).mono ?_
  rintro e w2 ⟨p, cf, rfl, hcf, hP, hF, hp, hcn⟩
  have hf2 : Fr noF (BPF w2 p b) w w2 := hf1.trans hF
  have hsz : w.heap.size ≤ w1.heap.size := hf1.size
  have hfA : Fr noF (BAll w2 p m b cf) w w2 := hf2.conv fun k hk hx => by
    rcases hx with hx | rfl | hx
    · exact hx
    · have := hf0.size; omega
    · have := hcn k hx; omega
  refine ⟨p, rfl, (I_writes (protoB p m b cf c) (protoB_ok p m b cf c) v xs (0, []) w2 ⟨hP, hcf⟩ (hv.new hfA) hn fun k x hx => wgood_B p m b cf c xs hl k x hx).mono ?_⟩
  rintro e w3 ⟨kv, rfl, hW⟩
  obtain ⟨⟨hB, hC⟩, hfr, hown, hap⟩ := hW
  rw [wfold_B] at hB
  simp only [Nat.zero_add, List.nil_append] at hB
  refine ⟨kv, rfl, hB.mem.cell, hB.buf, ?_, hown.lower hf2.size⟩
  exact (hfA.trans hfr).conv fun k _ hk => Or.inl (Or.inr hk)

theorem I_Write_B (c : ConfV) (hc : c.proto ≠ 1) (v : Value) (xs : List Stp) (w : World) (hv : RdS w noF v xs) (hn : xs.length ≤ 100000000) (hl : (xs.flatMap (Stp.binB c.strictW)).length ≤ LIM) :
    Calls Tryz.prog 29 #[c.val, v] w (WriteR w (xs.flatMap (Stp.binB c.strictW)) xs.length) := by
  have h2 := fun m b w1 hm hb hf hmn => write_prep c hc v xs w (w.alloc (.cells #[.int .i64 c.proto, .bool c.plain, .bool c.sr, .bool c.sw, .int .i32 c.msg, .int .i32 c.con, .int .i32 c.fra] 23 (0, 0))) hv hn hl ((Fr.refl noF w).alloc _) m b w1 hm hb hf hmn
  have h1 := NewTMemoryBuffer_raw (w.alloc (.cells #[.int .i64 c.proto, .bool c.plain, .bool c.sr, .bool c.sw, .int .i32 c.msg, .int .i32 c.con, .int .i32 c.fra] 23 (0, 0)))
  obtain ⟨L, hL⟩ : ∃ L, L = xs.flatMap (Stp.binB c.strictW) := ⟨_, rfl⟩
  obtain ⟨N, hN⟩ : ∃ N, N = xs.length := ⟨_, rfl⟩
  rw [← hL, ← hN] at h2 ⊢
  obtain ⟨pr, pl, sr, sw, ms, co, fr⟩ := c
  have H1 := Lib.hid h1
  have H2 := Lib.hid h2
  clear h1 h2 hL hN hv hn hl hc
  go_enter Tryz.func29, Tryz.ntmps29
  go_wp2_with fail
  refine H1.out.mono ?_
  rintro e w1 ⟨m, b, rfl, hm, hb, hf, hmn⟩
  have n1 := hf.block (alloc_new w _) fun x => x
  have c0 := cell_at n1 0
  have c1 := cell_at n1 1
  have c2 := cell_at n1 2
  have c3 := cell_at n1 3
  have c4 := cell_at n1 4
  have c5 := cell_at n1 5
  have c6 := cell_at n1 6
  simp only [List.getElem?_toArray, List.getElem?_cons_zero, List.getElem?_cons_succ] at c0 c1 c2 c3 c4 c5 c6
  have HP := Lib.hid (H2.out m b w1 hm hb hf hmn)
  clear hm hb hf hmn n1
  go_wp2_with fail
  refine HP.out.mono ?_
  rintro e w2 ⟨p, rfl, hx⟩
  have HX := Lib.hid hx
  clear hx c0 c1 c2 c3 c4 c5 c6
  go_wp2_with fail
  refine HX.out.mono ?_
  rintro e w3 ⟨kv, rfl, hE⟩
  have m0 := hE.mem
  have HE := Lib.hid hE
  clear hE
  go_wp2_with fail
  refine (Buf_Bytes b _ true L w3 HE.out.buf).mono ?_
  rintro e w4 ⟨bv, q, rfl, rfl, hR, hblk⟩
  have HR := Lib.hid (And.intro hR hblk)
  clear hR hblk m0
  go_wp2
  go_ret2
  refine ⟨bv, kv, rfl, HR.out.1, fun k hk => ?_, HE.out.own.drewN q, (HE.out.fr.conv fun _ _ x => x.elim).drewN q⟩
  have hB := HR.out.2 k hk
  refine Nat.le_of_not_lt fun hlt => ?_
  exact HE.out.fr.foot k hlt hB
end Go.Proofs.YtdifknecndlklaaGreatDoor
