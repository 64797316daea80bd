/- The thin package reads whatever step. The thin package reads steps, one behind the other, all of which are read. The binary protocol over a memory buffer, as a protocol that is read from (what is read without an error). impl.Read by the binary protocol: steps that are all read of bytes. -/
import Derived.Test.YtkfkieebcahiiaaGreatDoorZRs
import Derived.Test.YtkfkieebcahiiaaGreatDoorZRsB
import Derived.Test.YtkfkieebcahiiaaGreatDoorZRu
import Derived.Test.YtkfkieebcahiiaaGreatDoorZ6
import Derived.Test.YtkfkieebcahiiaaGreatDoorZ8
import Derived.Test.YtkfkieebcahiiaaGreatDoorZRp
import Derived.Test.YtkfkieebcahiiaaGreatDoorZA
import Derived.Test.YtkfkieebcahiiaaGreatDoorZ3
set_option linter.all false
namespace Go.Proofs.YtkfkieebcahiiaaGreatDoor
open Go Go.RowKit
set_option maxHeartbeats 1000000
set_option maxRecDepth 100000

/-- The call that a step makes. -/
def Stp.rop (x : Stp) : Option ROp :=
  match x.op with
  | 0 => some .msgBegin | 1 => some .msgEnd | 2 => some .structBegin | 3 => some .structEnd | 4 => some .fieldBegin | 5 => some .fieldEnd
  | 7 => some .mapBegin | 8 => some .mapEnd | 9 => some .listBegin | 10 => some .listEnd | 11 => some .setBegin | 12 => some .setEnd
  | 13 => some .bool | 14 => some .byte | 15 => some .i16 | 16 => some .i32 | 17 => some .i64 | 18 => some .double | 19 => some .string | 20 => some .binary | 21 => some .uuid
  | _ => none

/-- What a Got holds: a type, another one, a size, an id, a number; and the bytes. -/
structure GotD where
  t : Int := 0
  k : Int := 0
  sz : Int := 0
  id : Int := 0
  n : Int := 0
  s : List UInt8 := []
def ROp.got (x : RVal) : ROp → GotD
  | .msgBegin => { t := wrap64 x.t, n := wrap64 x.n, s := x.s }
  | .structBegin => { s := x.s }
  | .fieldBegin => { t := wrap64 x.t, id := wrap64 x.id, s := x.s }
  | .mapBegin => { t := wrap64 x.t, k := wrap64 x.k, sz := x.sz }
  | .listBegin => { t := wrap64 x.t, sz := x.sz }
  | .setBegin => { t := wrap64 x.t, sz := x.sz }
  | .bool => { n := if x.b then 1 else 0 }
  | .byte => { n := wrap64 x.n }
  | .i16 => { n := wrap64 x.n }
  | .i32 => { n := wrap64 x.n }
  | .i64 => { n := x.n }
  | .double => { n := wrap64 x.f }
  | .string => { s := x.s }
  | .binary => { s := x.s }
  | .uuid => { s := x.s }
  | _ => {}
abbrev GotD.cells (kind : Int) (g : GotD) (v : Value) : Array Value := #[.int .i64 kind, .int .i64 g.t, .int .i64 g.k, .int .i64 g.sz, .int .i64 g.id, .int .i64 g.n, v]

variable {S : Type} (P : RProto S)
/-- What the thin package has read. -/
def GD (w : World) (r : Int × RVal × S) (op : ROp) (e : Ending) (w' : World) : Prop :=
  ∃ x vS ev s', (r.1 = 0 → x = r.2.1 ∧ s' = r.2.2) ∧ e = .returned (.tuple #[.agg ((op.got x).cells 0 vS), ev]) ∧ ErrV w' ev r.1 ∧ P.I w' s' ∧ Fr (P.F w) (P.F w') w w' ∧ Rd w' vS (op.got x).s ∧ (∀ j, vblk vS j → w.heap.size ≤ j ∧ ¬ P.F w' j)

variable (hP : P.Ok)
include hP
theorem I_read_begun (w : World) (s : S) (r : Int × RVal × S) (rop : ROp) (op t k sz id n : Int) (vS : Value) (h : P.I w s) (ho : op < 13)
    (hb : ∀ W, P.I W s → Calls Tryz.prog 110 #[.iface P.T P.recv, .agg (stepA op t k sz id n vS)] W (GD P W r rop)) :
    Calls Tryz.prog 89 #[.iface P.T P.recv, .agg (stepA op t k sz id n vS)] w (GD P w r rop) := by
  have hf : Fr noF noF w ((w.alloc (.cells (stepA op t k sz id n vS) 63 (0, 0))).alloc (.cells gotZ TGot (0, 0))) := ((Fr.refl noF w).alloc _).alloc _
  have hq := hP.quiet h hf
  have hbx : ((w.alloc (.cells (stepA op t k sz id n vS) 63 (0, 0))).alloc (.cells gotZ TGot (0, 0))).heap[w.heap.size + 1]? = some (.cells gotZ TGot (0, 0)) := (new2 w _ _).2
  have hc : Calls Tryz.prog 110 #[.iface P.T P.recv, .agg (stepA op t k sz id n vS)] ((w.alloc (.cells (stepA op t k sz id n vS) 63 (0, 0))).alloc (.cells gotZ TGot (0, 0))) (fun e w' => ∃ x a m c ev s', (r.1 = 0 → x = r.2.1 ∧ s' = r.2.2) ∧ e = .returned (.tuple #[.agg ((rop.got x).cells 0 (.slice a m c)), ev]) ∧
      ErrV w' ev r.1 ∧ P.I w' s' ∧ Fr (P.F w) (P.F w') w w' ∧ Rd w' (.slice a m c) (rop.got x).s ∧ (∀ j, vblk (.slice a m c) j → w.heap.size + 1 < j ∧ ¬ P.F w' j) ∧ ¬ P.F w' (w.heap.size + 1) ∧ w'.heap[w.heap.size + 1]? = some (.cells gotZ TGot (0, 0))) := by
    refine (hb _ hq.1).mono ?_
    rintro e w' ⟨x, vS, ev, s', h1, h2, h3, h4, h5, h6, h7⟩
    obtain ⟨a, m, c, rfl, -⟩ := h6.len
    have hn : ¬ P.F ((w.alloc (.cells (stepA op t k sz id n vS) 63 (0, 0))).alloc (.cells gotZ TGot (0, 0))) (w.heap.size + 1) := fun hx => by have := hP.lt h (hq.2.1 _ hx); omega
    refine ⟨x, a, m, c, ev, s', h1, h2, h3, h4, hq.2.2.trans h5, h6, fun j hj => ⟨?_, (h7 j hj).2⟩, fun hx => hn (h5.foot _ (lt_heap hbx) hx), h5.block hbx hn⟩
    have := (h7 j hj).1
    simp at this
    omega
  have n13 : (op == 13) = false := beq_eq_false_iff_ne.2 (by omega)
  have n14 : (op == 14) = false := beq_eq_false_iff_ne.2 (by omega)
  have n15 : (op == 15) = false := beq_eq_false_iff_ne.2 (by omega)
  have n16 : (op == 16) = false := beq_eq_false_iff_ne.2 (by omega)
  have n17 : (op == 17) = false := beq_eq_false_iff_ne.2 (by omega)
  have n18 : (op == 18) = false := beq_eq_false_iff_ne.2 (by omega)
  have n19 : (op == 19) = false := beq_eq_false_iff_ne.2 (by omega)
  have n20 : (op == 20) = false := beq_eq_false_iff_ne.2 (by omega)
  have n21 : (op == 21) = false := beq_eq_false_iff_ne.2 (by omega)
  have HC := Lib.hid hc
  have HQ := Lib.hid hP
  obtain ⟨PT, hPT⟩ : ∃ f, f = P.T := ⟨_, rfl⟩
  obtain ⟨rc, hrc⟩ : ∃ f, f = P.recv := ⟨_, rfl⟩
  rw [← hPT, ← hrc] at HC
  rw [← hPT, ← hrc]
  clear hq hP h ho hPT hrc hc hb hf hbx
  go_enter Tryz.func89, Tryz.ntmps89
  go_wp2_with fail
  refine HC.out.mono ?_
  rintro e w2 ⟨x, a, m, c, ev, s', h1, rfl, h3, h4, h5, h6, h7, h8, h9⟩
  have HX := Lib.hid (And.intro h1 (And.intro h3 (And.intro h4 (And.intro h5 (And.intro h6 (And.intro h7 (And.intro h8 h9)))))))
  have hbx := h9
  obtain ⟨g, hg⟩ : ∃ g, g = rop.got x := ⟨_, rfl⟩
  rw [← hg]
  have HG := Lib.hid hg
  clear h1 h3 h4 h5 h6 h7 h8 h9 hg
  have c0 := cell_at hbx 0; have c1 := cell_at hbx 1; have c2 := cell_at hbx 2; have c3 := cell_at hbx 3; have c4 := cell_at hbx 4; have c5 := cell_at hbx 5; have c6 := cell_at hbx 6; have ff := free_at hbx
  simp only [gotZ, List.getElem?_toArray, List.getElem?_cons_zero, List.getElem?_cons_succ] at c0 c1 c2 c3 c4 c5 c6
  go_wp2
  have hd := cell_at (store7_at hbx (.int .i64 0) (.int .i64 g.t) (.int .i64 g.k) (.int .i64 g.sz) (.int .i64 g.id) (.int .i64 g.n) (.slice a m c))
  have d0 := hd 0; have d1 := hd 1; have d2 := hd 2; have d3 := hd 3; have d4 := hd 4; have d5 := hd 5; have d6 := hd 6
  simp only [List.getElem?_toArray, List.getElem?_cons_zero, List.getElem?_cons_succ] at d0 d1 d2 d3 d4 d5 d6
  have hs7 := store7_fr (k := w.heap.size + 1) (Fr.refl (fun k => k = w.heap.size + 1) w2) (Or.inl rfl) (.int .i64 0) (.int .i64 g.t) (.int .i64 g.k) (.int .i64 g.sz) (.int .i64 g.id) (.int .i64 g.n) (.slice a m c)
  obtain ⟨q1, q2⟩ := HQ.out.keep HX.out.2.2.1 hs7 fun k hk e => HX.out.2.2.2.2.2.2.1 (e ▸ hk)
  have q3 : Fr (P.F w) (P.F (store7 w2 (w.heap.size + 1) (.int .i64 0) (.int .i64 g.t) (.int .i64 g.k) (.int .i64 g.sz) (.int .i64 g.id) (.int .i64 g.n) (.slice a m c))) w (store7 w2 (w.heap.size + 1) (.int .i64 0) (.int .i64 g.t) (.int .i64 g.k) (.int .i64 g.sz) (.int .i64 g.id) (.int .i64 g.n) (.slice a m c)) := by
    have e := HX.out.2.2.2.1
    exact ⟨hs7.os.trans e.os, hs7.tape.trans e.tape, hs7.output.trans e.output, Nat.le_trans e.size hs7.size, fun k hk hn' => (hs7.keep k (Nat.lt_of_lt_of_le hk e.size) fun hg => by omega).trans (e.keep k hk hn'), fun k hk hx => e.foot k hk (q2 k hx)⟩
  have q4 : ErrV _ ev r.1 := HX.out.2.1.keep hs7 fun b cs hb e => tag_got HX.out.2.2.2.2.2.2.2 cs (e ▸ hb)
  have q5 : Rd _ (.slice a m c) (rop.got x).s := HX.out.2.2.2.2.1.keep hs7 fun k hk e => by have := (HX.out.2.2.2.2.2.1 k hk).1; omega
  clear hd hbx c0 c1 c2 c3 c4 c5 c6 ff hs7
  refine bodyPost_ret (v := .tuple #[.agg (g.cells 0 (.slice a m c)), ev]) ?_ rfl ⟨x, .slice a m c, ev, s', HX.out.1, by rw [HG.out], q4, q1, q3, q5, fun j hj => ⟨by have := (HX.out.2.2.2.2.2.1 j hj).1; omega, fun hF => (HX.out.2.2.2.2.2.1 j hj).2 (q2 j hF)⟩⟩
  rw [results_cell_tmp rfl]; clear q1 q2 q3 q4 q5 HX HG HC HQ; go_simp; done

theorem I_read_any (x : Stp) (w : World) (s : S) (r : Int × RVal × S) (rop : ROp) (h : P.I w s) (ho : x.rop = some rop) (hr : P.next s rop = some r) :
    Calls Tryz.prog 89 #[.iface P.T P.recv, x.val] w (GD P w r rop) := by
  obtain ⟨op, t, k, sz, id, n, v, l⟩ := x
  unfold Stp.rop at ho
  dsimp only at ho
  split at ho
  · injection ho with ho
    subst ho
    exact I_read_begun P hP w s r _ 0 t k sz id n v h (by omega) fun W hI => I_begun0 P hP W s r t k sz id n v hI hr
  · injection ho with ho
    subst ho
    exact I_read_begun P hP w s r _ 1 t k sz id n v h (by omega) fun W hI => I_begun1 P hP W s r t k sz id n v hI hr
  · injection ho with ho
    subst ho
    exact I_read_begun P hP w s r _ 2 t k sz id n v h (by omega) fun W hI => I_begun2 P hP W s r t k sz id n v hI hr
  · injection ho with ho
    subst ho
    exact I_read_begun P hP w s r _ 3 t k sz id n v h (by omega) fun W hI => I_begun3 P hP W s r t k sz id n v hI hr
  · injection ho with ho
    subst ho
    exact I_read_begun P hP w s r _ 4 t k sz id n v h (by omega) fun W hI => I_begun4 P hP W s r t k sz id n v hI hr
  · injection ho with ho
    subst ho
    exact I_read_begun P hP w s r _ 5 t k sz id n v h (by omega) fun W hI => I_begun5 P hP W s r t k sz id n v hI hr
  · injection ho with ho
    subst ho
    exact I_read_begun P hP w s r _ 7 t k sz id n v h (by omega) fun W hI => I_begun7 P hP W s r t k sz id n v hI hr
  · injection ho with ho
    subst ho
    exact I_read_begun P hP w s r _ 8 t k sz id n v h (by omega) fun W hI => I_begun8 P hP W s r t k sz id n v hI hr
  · injection ho with ho
    subst ho
    exact I_read_begun P hP w s r _ 9 t k sz id n v h (by omega) fun W hI => I_begun9 P hP W s r t k sz id n v hI hr
  · injection ho with ho
    subst ho
    exact I_read_begun P hP w s r _ 10 t k sz id n v h (by omega) fun W hI => I_begun10 P hP W s r t k sz id n v hI hr
  · injection ho with ho
    subst ho
    exact I_read_begun P hP w s r _ 11 t k sz id n v h (by omega) fun W hI => I_begun11 P hP W s r t k sz id n v hI hr
  · injection ho with ho
    subst ho
    exact I_read_begun P hP w s r _ 12 t k sz id n v h (by omega) fun W hI => I_begun12 P hP W s r t k sz id n v hI hr
  · injection ho with ho
    subst ho
    exact I_read13 P hP w s r t k sz id n v h hr
  · injection ho with ho
    subst ho
    exact I_read14 P hP w s r t k sz id n v h hr
  · injection ho with ho
    subst ho
    exact I_read15 P hP w s r t k sz id n v h hr
  · injection ho with ho
    subst ho
    exact I_read16 P hP w s r t k sz id n v h hr
  · injection ho with ho
    subst ho
    exact I_read17 P hP w s r t k sz id n v h hr
  · injection ho with ho
    subst ho
    exact I_read18 P hP w s r t k sz id n v h hr
  · injection ho with ho
    subst ho
    exact I_read19 P hP w s r t k sz id n v h hr
  · injection ho with ho
    subst ho
    exact I_read20 P hP w s r t k sz id n v h hr
  · injection ho with ho
    subst ho
    exact I_read21 P hP w s r t k sz id n v h hr
  · cases ho
end Go.Proofs.YtkfkieebcahiiaaGreatDoor
namespace Go.Proofs.YtkfkieebcahiiaaGreatDoor
open Go Go.RowKit
set_option maxHeartbeats 2000000
set_option maxRecDepth 100000

theorem Rd.blt {w : World} {v : Value} {l : List UInt8} (h : Rd w v l) : ∀ k, vblk v k → k < w.heap.size := by
  intro k hk
  rcases h with ⟨rfl, _⟩ | ⟨q, n, cc, rfl, hn', _, _, hs⟩
  · exact hk.elim
  · match n, hk, hn' with
    | n + 1, hk, hn' =>
      obtain ⟨u, hu⟩ : ∃ u, l[0]? = some u := ⟨_, List.getElem?_eq_getElem (by omega)⟩
      have := World.block_lt_of_cell? w _ (hs 0 u hu)
      rw [block_add'] at this
      exact hk ▸ this

/-- The cells of Gots with their slices. -/
def gotCells (gs : List GotD) (vs : List Value) : List Value := (List.zipWith (fun g v => (GotD.cells 0 g v).toList) gs vs).flatten
theorem gotCells_snoc (gs : List GotD) (vs : List Value) (g : GotD) (v : Value) (h : gs.length = vs.length) : gotCells (gs ++ [g]) (vs ++ [v]) = gotCells gs vs ++ (GotD.cells 0 g v).toList := by
  unfold gotCells
  rw [List.zipWith_append h]
  simp
theorem info_got : (Tryz.prog.info? 71).map (fun i => (i.zero, i.size, i.bytes)) = some (some (.agg gotZ), 7, 72) := by kernel_rfl

variable {S : Type} (P : RProto S) (hP : P.Ok)
/-- What stands while steps are read: v holds gs, their bytes by vs. -/
structure RL (w0 : World) (s : S) (gs : List GotD) (vs : List Value) (v : Value) (w : World) : Prop where
  I : P.I w s
  fr : Fr (P.F w0) (P.F w) w0 w
  len : gs.length = vs.length
  own : w.ownsRow w0.heap.size TGot 7 v gs.length (gotCells gs vs)
  apart : ∀ g, v.ownBlock = some g → ¬ P.F w g
  each : ∀ (j : Nat) g u, gs[j]? = some g → vs[j]? = some u → Rd w u g.s ∧ ∀ k, vblk u k → w0.heap.size ≤ k ∧ ¬ P.F w k ∧ v.ownBlock ≠ some k

include hP
theorem RL.next {w0 w w1 w2 : World} {s s' : S} {gs : List GotD} {vs : List Value} {g : GotD} {v v' vS : Value} {o1 o2 : Obj} (h : RL P w0 s gs vs v w) (h1 : P.I w1 s') (hf : Fr (P.F w) (P.F w1) w w1)
    (hrd : Rd w1 vS g.s) (hfresh : ∀ j, vblk vS j → w.heap.size ≤ j ∧ ¬ P.F w1 j)
    (hown : w2.ownsRow w0.heap.size TGot 7 v' (gs.length + 1) (gotCells gs vs ++ (GotD.cells 0 g vS).toList)) (hg : ((w1.alloc o1).alloc o2).grownBy w2 v.ownBlock) (hat : v'.ownBlock = v.ownBlock ∨ v'.ownBlock = some ((w1.alloc o1).alloc o2).heap.size) : RL P w0 s' (gs ++ [g]) (vs ++ [vS]) v' w2 := by
  have hlt := h.own.lt
  have hal : Fr noF noF w1 ((w1.alloc o1).alloc o2) := ((Fr.refl noF w1).alloc o1).alloc o2
  obtain ⟨h2, h3, h4⟩ := hP.quiet h1 hal
  have ha : ∀ k, v.ownBlock = some k → ¬ P.F w1 k := fun k hv hx => h.apart k hv (hf.foot k (hlt k hv).2 hx)
  have hG : Fr (fun k => v.ownBlock = some k) (fun k => v.ownBlock = some k) ((w1.alloc o1).alloc o2) w2 := ⟨hg.os, hg.tape, hg.output, hg.size, fun k hlt' hn => hg.block k hlt' fun e => hn e.symm, fun _ _ hx => hx⟩
  obtain ⟨h5, h6⟩ := hP.keep h2 hG fun k hx hv => ha k hv (h3 k hx)
  have hbig : w0.heap.size ≤ w.heap.size := h.fr.size
  have e1 := h.fr.trans (hf.trans h4)
  have hsz := hf.size
  have hF : ∀ k, P.F w2 k → P.F w1 k := fun k hx => h3 k (h6 k hx)
  have hnew : ∀ k, k < ((w1.alloc o1).alloc o2).heap.size → v.ownBlock ≠ some k → v'.ownBlock ≠ some k := fun k hk hne hv => by
    rcases hat with hat | hat
    · exact hne (hat ▸ hv)
    · rw [hat] at hv
      injection hv with hv
      omega
  refine ⟨h5, ?_, by rw [List.length_append, List.length_append, h.len]; rfl, ?_, fun k hv hx => ?_, ?_⟩
  · refine ⟨hg.os.trans e1.os, hg.tape.trans e1.tape, hg.output.trans e1.output, Nat.le_trans e1.size hg.size, fun g hk hn => (hg.block g (Nat.lt_of_lt_of_le hk e1.size) fun e => ?_).trans (e1.keep g hk hn), fun g hk hx => e1.foot g hk (h6 g hx)⟩
    have := (hlt g e.symm).1
    omega
  · rw [List.length_append, gotCells_snoc _ _ _ _ h.len]
    exact hown
  · rcases hat with hat | hat
    · rw [hat] at hv
      exact ha k hv (hF k hx)
    · rw [hat] at hv
      injection hv with hv
      have := hP.lt h2 (h6 k hx)
      omega
  · intro j g' u hj hu
    have hlen := h.len
    by_cases hjl : j < gs.length
    · rw [List.getElem?_append_left hjl] at hj
      rw [List.getElem?_append_left (by omega)] at hu
      obtain ⟨r1, r2⟩ := h.each j g' u hj hu
      have r3 : Rd ((w1.alloc o1).alloc o2) u g'.s := (r1.keep hf fun k hk => (r2 k hk).2.1).keep hal fun _ _ x => x
      refine ⟨r3.keep hG fun k hk e => (r2 k hk).2.2 e, fun k hk => ⟨(r2 k hk).1, fun hx => ?_, hnew k (r3.blt k hk) (r2 k hk).2.2⟩⟩
      exact (r2 k hk).2.1 (hf.foot k (r1.blt k hk) (hF k hx))
    · have hjg : j < (gs ++ [g]).length := (List.getElem?_eq_some_iff.1 hj).1
      rw [List.length_append] at hjg
      obtain rfl : j = gs.length := by simp at hjg; omega
      rw [List.getElem?_append_right (Nat.le_refl _), Nat.sub_self] at hj
      rw [List.getElem?_append_right (by omega), hlen, Nat.sub_self] at hu
      simp at hj hu
      subst hj hu
      have r3 : Rd ((w1.alloc o1).alloc o2) vS g.s := hrd.keep hal fun _ _ x => x
      have hne : ∀ k, vblk vS k → v.ownBlock ≠ some k := fun k hk e => by have := (hlt k e).2; have := (hfresh k hk).1; omega
      exact ⟨r3.keep hG fun k hk e => hne k hk e, fun k hk => ⟨by have := (hfresh k hk).1; omega, fun hx => (hfresh k hk).2 (hF k hx), hnew k (r3.blt k hk) (hne k hk)⟩⟩

omit hP in
/-- All steps are read. -/
def rrun (P : RProto S) : S → List Stp → Option (List GotD × S)
  | s, [] => some ([], s)
  | s, x :: xs => match x.rop with
    | none => none
    | some op => match P.next s op with
      | some (k, v, s') => if k = 0 then (rrun P s' xs).map fun y => (op.got v :: y.1, y.2) else none
      | none => none

omit hP in
theorem rrun_cons {s sF : S} {x : Stp} {xs : List Stp} {GS : List GotD} (h : rrun P s (x :: xs) = some (GS, sF)) : ∃ op v s' rest, x.rop = some op ∧ P.next s op = some (0, v, s') ∧ rrun P s' xs = some (rest, sF) ∧ GS = op.got v :: rest := by
  unfold rrun at h
  split at h
  · cases h
  · rename_i op ho
    split at h
    · rename_i k v s' hn
      split at h
      · rename_i hk
        subst hk
        simp only [Option.map_eq_some_iff, Prod.exists, Prod.mk.injEq] at h
        obtain ⟨rest, sF', h1, rfl, rfl⟩ := h
        exact ⟨op, v, s', rest, ho, hn, h1, rfl⟩
      · cases h
    · cases h

theorem read_step (x : Stp) (s s' : S) (rop : ROp) (v : RVal) (w1 w2 : World) (hI : P.I w1 s) (hrop : x.rop = some rop) (hnext : P.next s rop = some (0, v, s')) (hf2 : Fr noF noF w1 w2) :
    Calls Tryz.prog 89 #[.iface P.T P.recv, x.val] w2 (fun e w3 => ∃ a m c, e = .returned (.tuple #[.agg ((rop.got v).cells 0 (.slice a m c)), .nilIface]) ∧ P.I w3 s' ∧ Fr (P.F w1) (P.F w3) w1 w3 ∧ Rd w3 (.slice a m c) (rop.got v).s ∧ (∀ j, vblk (.slice a m c) j → w1.heap.size ≤ j ∧ ¬ P.F w3 j)) := by
  obtain ⟨h1, h2, h3⟩ := hP.quiet hI hf2
  refine (I_read_any P hP x w2 s (0, v, s') rop h1 hrop hnext).mono ?_
  rintro e w3 ⟨x', vS, ev, s'', hv, rfl, hE, hI3, hF, hR, hfr⟩
  obtain ⟨rfl, rfl⟩ := hv rfl
  obtain ⟨a, m, c, rfl, -⟩ := hR.len
  have := hf2.size
  exact ⟨a, m, c, by rw [hE.zero], hI3, h3.trans hF, hR, fun j hj => ⟨by have := (hfr j hj).1; omega, (hfr j hj).2⟩⟩

/-- What is read. -/
def Reads (w : World) (GS : List GotD) (sF : S) (e : Ending) (w' : World) : Prop := ∃ v vs, e = .returned v ∧ RL P w sF GS vs v w'

omit hP in
theorem cells_new (w : World) (L : List Value) (t : TypeId) : ∀ (j : Nat) u, L[j]? = some u → (w.alloc (.cells L.toArray t (0, 0))).cell? ((⟨w.heap.size, 0, none⟩ : Addr).add j) = some u := by
  intro j u hj
  rw [Lib.addr_add, cell_at (alloc_new w _)]
  simpa using hj

theorem I_reads (v : Value) (xs : List Stp) (s sF : S) (GS : List GotD) (w : World) (h : P.I w s) (hv : RdS w (P.F w) v xs) (hn : xs.length ≤ 10000000) (hrun : rrun P s xs = some (GS, sF)) :
    Calls Tryz.prog 63 #[.iface P.T P.recv, v] w (Reads P w GS sF) := by
  have hcell : ∀ (k : Nat) (x : Stp) w1 (F' : Nat → Prop), xs[k]? = some x → Fr (P.F w) F' w w1 → ∀ g o c, v = .slice (some ⟨g, o, none⟩) xs.length c → (∀ i u, x.cells[i]? = some u → w1.cell? ⟨g, o + k * 7 + i, none⟩ = some u) := by
    intro k x w1 F' hk hW g o c he i u hi
    rcases hv with ⟨a, c', rfl, rfl⟩ | ⟨g', o', c', rfl, hc, hm, hgF, hxs⟩
    · simp at hk
    cases he
    exact hW.cell ((hxs k x hk).1 i u hi) hgF
  have h0 : RL P w s [] [] (.slice none 0 0) w := ⟨h, Fr.refl _ w, rfl, ⟨rfl, Or.inl ⟨rfl, rfl⟩⟩, fun g hg => (by cases hg), fun j g u hj => (by simp at hj)⟩
  obtain ⟨a, n, c, hva, hnl⟩ : ∃ a n c, v = .slice a n c ∧ xs.length = n := by
    rcases hv with ⟨a, c, rfl, rfl⟩ | ⟨g, o, c, rfl, _⟩
    · exact ⟨_, _, _, rfl, rfl⟩
    · exact ⟨_, _, _, rfl, rfl⟩
  have hsome : ∀ (k : Nat) (x : Stp), xs[k]? = some x → ∃ (g o : Nat), a = some ⟨g, o, none⟩ := by
    intro k x hk
    rcases hv with ⟨a', c', _, rfl⟩ | ⟨g, o, c', he, _⟩
    · simp at hk
    · rw [hva] at he
      cases he
      exact ⟨g, o, rfl⟩
  have hslice : ∀ (k : Nat) (x : Stp), xs[k]? = some x → ∃ xa xn xc, x.v = .slice xa xn xc := by
    intro k x hk
    rcases hv with ⟨a', c', _, rfl⟩ | ⟨g, o, c', he, _, _, _, hxs⟩
    · simp at hk
    · obtain ⟨xa, xn, xc, h1, _⟩ := (hxs k x hk).2.1.len
      exact ⟨_, _, _, h1⟩
  subst hva
  have HS := Lib.hid (read_step P hP)
  have HQ := Lib.hid hP
  have HL := Lib.hid hslice
  have HC := Lib.hid hcell
  have HO := Lib.hid hsome
  have HN := Lib.hid hnl
  have H0 := Lib.hid h0
  have HR := Lib.hid hrun
  obtain ⟨i0, hi, hz0, hz1, hz2⟩ := info_parts info_got
  have HI := Lib.hid (And.intro hi (And.intro hz0 (And.intro hz1 hz2)))
  obtain ⟨PT, hPT⟩ : ∃ f, f = P.T := ⟨_, rfl⟩
  obtain ⟨r, hr⟩ : ∃ f, f = P.recv := ⟨_, rfl⟩
  rw [← hPT, ← hr] at HS
  rw [← hPT, ← hr]
  rw [hnl] at hn
  clear hslice hcell hsome hnl h0 hPT hr hv hrun h hP hi hz0 hz1 hz2
  go_enter Tryz.func63, Tryz.ntmps63
  go_wp2_with fail
  go_loopw [5, 12] (fun ov i wr => ∃ (k : Nat) (s' : S) (vs : List Value), i = .int .i64 k ∧ k ≤ n ∧ rrun P s' (xs.drop k) = some (GS.drop k, sF) ∧ (GS.take k).length = k ∧ RL P w s' (GS.take k) vs ov wr) (fun _ i _ => n - (intOf i).toNat)
  case atStart => exact ⟨0, s, [], rfl, by omega, by simpa using HR.out, rfl, by simpa using H0.out⟩
  case round =>
    obtain ⟨k, s', vs, rfl, hk, hrun, hgl, hW⟩ := hrel
    rcases Nat.lt_or_ge k n with hlt | hge
    · obtain ⟨x, hx⟩ : ∃ x, xs[k]? = some x := ⟨_, List.getElem?_eq_getElem (by rw [HN.out]; exact hlt)⟩
      have hdrop : xs.drop k = x :: xs.drop (k + 1) := by
        rw [List.drop_eq_getElem_cons (List.getElem?_eq_some_iff.1 hx).1, (List.getElem?_eq_some_iff.1 hx).2]
      rw [hdrop] at hrun
      obtain ⟨op, rv, s2, rest, hop, hnext, hrun2, hGS⟩ := rrun_cons P hrun
      obtain ⟨gd, hgd⟩ : ∃ gd, gd = op.got rv := ⟨_, rfl⟩
      have hdrop2 : GS.drop (k + 1) = rest := by rw [← List.drop_drop, hGS]; rfl
      have htake : GS.take (k + 1) = GS.take k ++ [gd] := by
        have : GS[k]? = some gd := by
          have := congrArg (fun l : List GotD => l[0]?) hGS
          rw [List.getElem?_drop] at this
          rw [hgd]
          simpa using this
        rw [List.take_add_one, this]
        rfl
      obtain ⟨g, o, rfl⟩ := HO.out k x hx
      have hc := HC.out k x _ _ hx hW.fr g o c (by rw [HN.out])
      have d0 : wr.cell? ⟨g, o + k * 7, none⟩ = some (.int .i64 x.op) := hc 0 _ rfl
      have d1 : wr.cell? ⟨g, o + k * 7 + 1, none⟩ = some (.int .i64 x.t) := hc 1 _ rfl
      have d2 : wr.cell? ⟨g, o + k * 7 + 2, none⟩ = some (.int .i64 x.k) := hc 2 _ rfl
      have d3 : wr.cell? ⟨g, o + k * 7 + 3, none⟩ = some (.int .i64 x.sz) := hc 3 _ rfl
      have d4 : wr.cell? ⟨g, o + k * 7 + 4, none⟩ = some (.int .i64 x.id) := hc 4 _ rfl
      have d5 : wr.cell? ⟨g, o + k * 7 + 5, none⟩ = some (.int .i64 x.n) := hc 5 _ rfl
      have d6 : wr.cell? ⟨g, o + k * 7 + 6, none⟩ = some (x.v) := hc 6 _ rfl
      obtain ⟨xa, xn, xc, hxv⟩ := HL.out k x hx
      rw [hxv] at d6
      have hval : x.val = .agg (stepA x.op x.t x.k x.sz x.id x.n (.slice xa xn xc)) := by rw [← hxv]
      have hcall := HS.out x s' s2 op rv wr (wr.alloc (.cells (stepA x.op x.t x.k x.sz x.id x.n (.slice xa xn xc)) 63 (0, 0))) hW.I hop hnext ((Fr.refl noF wr).alloc _)
      rw [hval, ← hgd] at hcall
      have HV := Lib.hid hcall
      have HW := Lib.hid hW
      have HT := Lib.hid (And.intro hrun2 (And.intro hdrop2 (And.intro htake hgl)))
      have hk0 : (0 : Int) ≤ (k : Int) := by omega
      have hk1 : (k : Int) < (n : Int) := by omega
      clear hcall hxv hval hW hc hx hrun hdrop hop hnext hrun2 hGS hgd hdrop2 htake hgl
      go_wp2_with fail
      refine HV.out.mono ?_
      rintro e w3 ⟨va, vm, vc, rfl, hI, hF, hR, hfresh⟩
      have HX := Lib.hid (And.intro hI (And.intro hF (And.intro hR hfresh)))
      clear hI hF hR hfresh d0 d1 d2 d3 d4 d5 d6
      have hown : ((w3.alloc (.cells (gd.cells 0 (.slice va vm vc)) TGot (0, 0))).alloc (.cells (gd.cells 0 (.slice va vm vc)) TGot (0, 0))).ownsRow w.heap.size TGot 7 u5 (GS.take k).length (gotCells (GS.take k) vs) := by
        have h1 : w3.ownsRow w.heap.size TGot 7 u5 (GS.take k).length (gotCells (GS.take k) vs) := by
          obtain ⟨e0, e1 | ⟨b, cap, cur, e1, e2, e3, e4⟩⟩ := HW.out.own
          · exact ⟨e0, Or.inl e1⟩
          · exact ⟨e0, Or.inr ⟨b, cap, cur, e1, e2, HX.out.2.1.block e3 (HW.out.apart b (by rw [e1]; rfl)), e4⟩⟩
        exact (h1.alloc _).alloc _
      have hz : w.heap.size ≤ ((w3.alloc (.cells (gd.cells 0 (.slice va vm vc)) TGot (0, 0))).alloc (.cells (gd.cells 0 (.slice va vm vc)) TGot (0, 0))).heap.size := by
        have h1 := HW.out.fr.size
        have h2 := HX.out.2.1.size
        simp; omega
      have HZ := Lib.hid (And.intro hown hz)
      clear hown hz
      have hnews : ∀ (j : Nat) u, (gd.cells 0 (.slice va vm vc)).toList[j]? = some u → ((w3.alloc (.cells (gd.cells 0 (.slice va vm vc)) TGot (0, 0))).alloc (.cells (gd.cells 0 (.slice va vm vc)) TGot (0, 0))).cell? ((⟨w3.heap.size + 1, 0, none⟩ : Addr).add j) = some u := by
        have := cells_new (w3.alloc (.cells (gd.cells 0 (.slice va vm vc)) TGot (0, 0))) (gd.cells 0 (.slice va vm vc)).toList TGot
        simpa using this
      have hone : ∀ u ∈ (gd.cells 0 (.slice va vm vc)).toList, u.oneCell' = true := by
        intro u hu
        simp at hu
        rcases hu with rfl | rfl | rfl | rfl | rfl | rfl | rfl <;> rfl
      have hmax : (GS.take k).length + 1 ≤ maxLen ∧ ((GS.take k).length + 1) * 72 ≤ 140737488355328 := by
        have := HT.out.2.2.2
        unfold maxLen
        omega
      have HA := Lib.hid (And.intro hnews (And.intro hone hmax))
      clear hnews hone hmax
      go_wp2_with (first | (go_at_call 48; refine (kind_nil _).mono ?_; rintro e w' ⟨rfl, rfl⟩) | (at_builtin; refine wpList_append_own_at _ rfl _ _ 72 rfl w.heap.size TGot i0 (.agg gotZ) 7 72 Tryz.underlying72 HI.out.1 HI.out.2.1 HI.out.2.2.1 HI.out.2.2.2 rfl (by decide) _ (GS.take k).length (gotCells (GS.take k) vs) rfl HZ.out.1 ⟨w3.heap.size + 1, 0, none⟩ 1 1 (gd.cells 0 (.slice va vm vc)).toList rfl rfl HA.out.1 HA.out.2.1 HA.out.2.2.1 HA.out.2.2.2 HZ.out.2 ?_))
      intro v' w4 hown hgrow _ hat
      have hnext := HW.out.next P HQ.out HX.out.1 HX.out.2.1 HX.out.2.2.1 HX.out.2.2.2 (by simpa using hown) hgrow (by simpa using hat)
      rw [← HT.out.2.2.1] at hnext
      have HY := Lib.hid hnext
      clear hown hgrow hat hnext
      go_wp2_with fail
      go_roundw
      case rel =>
        refine ⟨k + 1, s2, _, by go_num, by omega, by rw [HT.out.2.1]; exact HT.out.1, ?_, HY.out⟩
        rw [HT.out.2.2.1, List.length_append, HT.out.2.2.2]
        rfl
      case measure => simp [intOf]; omega
    · obtain rfl : k = n := by omega
      have e : xs.drop k = [] := List.drop_of_length_le (by rw [HN.out]; exact Nat.le_refl _)
      rw [e] at hrun
      have hfin : GS.drop k = [] ∧ s' = sF := by
        simp only [rrun, Option.some.injEq, Prod.mk.injEq] at hrun
        exact ⟨hrun.1.symm, hrun.2⟩
      have hall : GS.take k = GS := by
        have := List.take_append_drop k GS
        rw [hfin.1, List.append_nil] at this
        exact this
      rw [hall, hfin.2] at hW
      have HW := Lib.hid hW
      clear hW e hrun hfin hall hgl
      have hkk : ¬ (k : Int) < (k : Int) := by omega
      go_wp2
      go_ret
      exact ⟨_, _, rfl, HW.out⟩
end Go.Proofs.YtkfkieebcahiiaaGreatDoor
namespace Go.Proofs.YtkfkieebcahiiaaGreatDoor
open Go Go.RowKit
set_option maxRecDepth 100000
set_option maxHeartbeats 1000000

/-- The size of a container, and whether so many elements of at least k bytes each may be. -/
def cszB (r : List UInt8) : Int := wrap32 (Lib.beNat (r.take 4))
def fitsB (c : ConfV) (r : List UInt8) (k : Int) : Prop := 4 ≤ r.length ∧ 0 ≤ cszB r ∧ (cszB r).toNat * k.toNat ≤ (r.drop 4).length ∧ cszB r ≤ c.maxCon ∧ (((cszB r).toNat * k.toNat : Nat) : Int) ≤ c.maxMsg ∧ (cszB r).toNat * k.toNat ≤ 2147483647 ∧ r.length ≤ LIM ∧ c.maxCon ≤ 2147483647

/-- A text stands there, with its length ahead, and is within the limit. -/
def txtB (c : ConfV) (l : List UInt8) : Prop := 4 ≤ l.length ∧ 0 ≤ cszB l ∧ (cszB l).toNat ≤ (l.drop 4).length ∧ (cszB l).toNat ≤ 1000000 ∧ cszB l ≤ c.maxMsg
open Classical in
noncomputable def bnext (c : ConfV) (l : List UInt8) : ROp → Option (Int × RVal × List UInt8)
  | .msgEnd | .structBegin | .structEnd | .fieldEnd | .mapEnd | .listEnd | .setEnd => some (0, {}, l)
  | .fieldBegin => match l with
    | [] => none
    | u :: r => if u = 0 then some (0, {}, r) else if 2 ≤ r.length then some (0, { t := u.toNat, id := IntKind.i16.wrap (Lib.beNat (r.take 2)) }, r.drop 2) else none
  | .mapBegin => match l with
    | u1 :: u :: r => if isTy u1.toNat ∧ isTy u.toNat ∧ fitsB c r (minB u1.toNat + minB u.toNat) then some (0, { k := u1.toNat, t := u.toNat, sz := cszB r }, r.drop 4) else none
    | _ => none
  | .listBegin => match l with
    | u :: r => if isTy u.toNat ∧ fitsB c r (minB u.toNat) then some (0, { t := u.toNat, sz := cszB r }, r.drop 4) else none
    | _ => none
  | .setBegin => match l with
    | u :: r => if isTy u.toNat ∧ fitsB c r (minB u.toNat) then some (0, { t := u.toNat, sz := cszB r }, r.drop 4) else none
    | _ => none
  | .bool => match l with
    | u :: r => some (0, { b := decide (u = 1) }, r)
    | _ => none
  | .byte => match l with
    | u :: r => some (0, { n := IntKind.i8.wrap u.toNat }, r)
    | _ => none
  | .i16 => if 2 ≤ l.length then some (0, { n := IntKind.i16.wrap (Lib.beNat (l.take 2)) }, l.drop 2) else none
  | .i32 => if 4 ≤ l.length then some (0, { n := wrap32 (Lib.beNat (l.take 4)) }, l.drop 4) else none
  | .i64 => if 8 ≤ l.length then some (0, { n := wrap64 (Lib.beNat (l.take 8)) }, l.drop 8) else none
  | .double => if 8 ≤ l.length then some (0, { f := Lib.beNat (l.take 8) }, l.drop 8) else none
  | .string => if txtB c l then some (0, { s := (l.drop 4).take (cszB l).toNat }, (l.drop 4).drop (cszB l).toNat) else none
  | .binary => if txtB c l then some (0, { s := (l.drop 4).take (cszB l).toNat }, (l.drop 4).drop (cszB l).toNat) else none
  | .uuid => if 16 ≤ l.length then some (0, { s := l.take 16 }, l.drop 16) else none
  | _ => none

/-- The protocol; its state: the unread bytes. -/
noncomputable def protoRB (p m b T : Nat) (cf : Value) (c : ConfV) : RProto (List UInt8) where
  T := PBP
  recv := .pointer (some ⟨p, 0, none⟩)
  fn n := match n with
    | "ReadMessageBegin" => 243 | "ReadMessageEnd" => 244 | "ReadStructBegin" => 248 | "ReadStructEnd" => 249
    | "ReadFieldBegin" => 234 | "ReadFieldEnd" => 235 | "ReadMapBegin" => 241 | "ReadMapEnd" => 242
    | "ReadListBegin" => 239 | "ReadListEnd" => 240 | "ReadSetBegin" => 245 | "ReadSetEnd" => 246
    | "ReadBool" => 231 | "ReadByte" => 232 | "ReadI16" => 236 | "ReadI32" => 237 | "ReadI64" => 238 | "ReadDouble" => 233
    | "ReadString" => 247 | "ReadBinary" => 230 | "ReadUUID" => 250
    | _ => 0
  I w l := (∃ z, BP w p m b cf T z l) ∧ Cfg w cf c
  F w k := BAll w p m b cf k
  next l op := bnext c l op

theorem minB_ex (t : Int) : ∃ K : Nat, minB t = K := ⟨(minB t).toNat, by have := minB_bounds t; omega⟩
theorem fitsB_ex {c : ConfV} {r : List UInt8} {K : Nat} (h : fitsB c r K) : ∃ N : Nat, cszB r = N ∧ 4 ≤ r.length ∧ N * K ≤ (r.drop 4).length ∧ (N : Int) ≤ c.maxCon ∧ ((N * K : Nat) : Int) ≤ c.maxMsg ∧ N * K ≤ 2147483647 ∧ r.length ≤ LIM ∧ c.maxCon ≤ 2147483647 := by
  unfold fitsB at h
  obtain ⟨f1, f2, f3, f4, f5, f6, f7, f8⟩ := h
  obtain ⟨N, hN⟩ : ∃ N : Nat, cszB r = N := ⟨(cszB r).toNat, (Int.toNat_of_nonneg f2).symm⟩
  rw [hN] at f3 f4 f5 f6
  rw [Int.toNat_natCast, Int.toNat_natCast] at f3 f5 f6
  exact ⟨N, hN, f1, f3, f4, f5, f6, f7, f8⟩
theorem minB_nat (t : Int) : ((minB t).toNat : Int) = minB t := by have := minB_bounds t; omega

theorem protoRB_ok (p m b T : Nat) (cf : Value) (c : ConfV) : (protoRB p m b T cf c).Ok where
  meth op w := by cases op <;> kernel_rfl
  ahead op w := by cases op <;> kernel_rfl
  enter op xs w := by cases op <;> kernel_rfl
  call op w l r h hr := by
    obtain ⟨⟨z, hB⟩, hC⟩ := h
    have fin : ∀ {e : Ending} {w' : World} (x : RVal) (v : Value) (s' : List UInt8) (n : Nat) (rv : Value), r = (0, x, s') → rv = op.ret x v .nilIface → s' = l.drop n → x.s = [] → (op.fits w' x v) → BV w p m b cf T l n rv e w' →
        ∃ x v ev s', e = .returned (op.ret x v ev) ∧ RX (protoRB p m b T cf c) w r op x v ev s' w' := fun {e w'} x v s' n rv hr hv hs hx hf hw => by
      obtain ⟨h1, h2⟩ := hB.all hC hw.2.2
      refine ⟨x, v, .nilIface, s', by rw [hw.1, hv], fun _ => by rw [hr]; exact ⟨rfl, rfl⟩, by rw [hr]; exact ErrV.nil _, ⟨⟨false, by rw [hs]; exact hw.2.1⟩, h1⟩, h2, by rw [hx]; decide, hf⟩
    have fin0 : ∀ {e : Ending} {w' : World} (rv : Value), r = (0, ({} : RVal), l) → rv = op.ret ({} : RVal) .nilIface .nilIface → (op.fits w' ({} : RVal) .nilIface) → (e = .returned rv ∧ w = w') → ∃ x v ev s', e = .returned (op.ret x v ev) ∧ RX (protoRB p m b T cf c) w r op x v ev s' w' := fun {e w'} rv hr hv hf hw => by
      obtain ⟨rfl, rfl⟩ := hw
      exact ⟨{}, .nilIface, .nilIface, l, by rw [hv], fun _ => by rw [hr]; exact ⟨rfl, rfl⟩, by rw [hr]; exact ErrV.nil _, ⟨⟨z, hB⟩, hC⟩, Fr.refl _ _, by decide, hf⟩
    have hr' : bnext c l op = some r := hr
    clear hr
    cases op with
    | msgBegin => simp [bnext] at hr'
    | string =>
      simp only [bnext] at hr'
      split at hr'
      · rename_i ht
        obtain ⟨h1, h2, h3, h4, h5⟩ := ht
        injection hr' with hr'
        obtain ⟨N, hN⟩ : ∃ N : Nat, cszB l = N := ⟨(cszB l).toNat, (Int.toNat_of_nonneg h2).symm⟩
        rw [hN, Int.toNat_natCast] at hr' h3 h4
        rw [hN] at h5
        have hgo : Calls Tryz.prog 247 #[.pointer (some ⟨p, 0, none⟩), ctxV] w (fun e w' => ∃ z, e = .returned (.tuple #[.string ⟨((l.drop 4).take N).toArray⟩, .nilIface]) ∧ BP w' p m b cf T z ((l.drop 4).drop N) ∧ Fr (BPF w p b) (BPF w' p b) w w') := by
          rcases Nat.eq_zero_or_pos N with h0 | hp
          · subst h0
            exact (B_ReadString_0 p m b T cf c z l w hB hC h1 hN h5).mono fun e w' ⟨k1, k2, k3⟩ => ⟨false, by simpa using k1, by simpa using k2, k3⟩
          · rcases Nat.lt_or_ge N 64 with h6 | h6
            · exact B_ReadString_small p m b T cf c z l N w hB hC h1 hN hp h6 h3 h5
            · exact B_ReadString_large p m b T cf c z l N w hB hC h1 hN h6 h3 h4 h5
        refine hgo.mono ?_
        rintro e w' ⟨z', rfl, hB', hf⟩
        obtain ⟨k1, k2⟩ := hB.all hC hf
        exact ⟨{ s := (l.drop 4).take N }, .nilIface, .nilIface, (l.drop 4).drop N, rfl, fun _ => by rw [← hr']; exact ⟨rfl, rfl⟩, by rw [← hr']; exact ErrV.nil _, ⟨⟨z', hB'⟩, k1⟩, k2, by show ((l.drop 4).take N).length ≤ _; rw [List.length_take]; omega, trivial⟩
      · cases hr'
    | binary =>
      simp only [bnext] at hr'
      split at hr'
      · rename_i ht
        obtain ⟨h1, h2, h3, h4, h5⟩ := ht
        injection hr' with hr'
        obtain ⟨N, hN⟩ : ∃ N : Nat, cszB l = N := ⟨(cszB l).toNat, (Int.toNat_of_nonneg h2).symm⟩
        rw [hN, Int.toNat_natCast] at hr' h3 h4
        rw [hN] at h5
        refine (B_ReadBinary p m b T cf c z l N w hB hC h1 hN h3 h4 h5).mono ?_
        rintro e w' ⟨g, c', z', rfl, hr2, _, hB', hf⟩
        obtain ⟨k1, k2⟩ := hB.all hC hf
        exact ⟨{ s := (l.drop 4).take N }, .slice (some ⟨g, 0, none⟩) N c', .nilIface, (l.drop 4).drop N, rfl, fun _ => by rw [← hr']; exact ⟨rfl, rfl⟩, by rw [← hr']; exact ErrV.nil _, ⟨⟨z', hB'⟩, k1⟩, k2, by show ((l.drop 4).take N).length ≤ _; rw [List.length_take]; omega, hr2⟩
      · cases hr'
    | uuid =>
      simp only [bnext] at hr'
      split at hr'
      · rename_i ht
        injection hr' with hr'
        refine (B_ReadUUID p m b T cf z l w hB ht).mono ?_
        rintro e w' ⟨rfl, hB', hf⟩
        obtain ⟨k1, k2⟩ := hB.all hC hf
        have h16 : (l.take 16).length = 16 := by rw [List.length_take]; omega
        exact ⟨{ s := l.take 16 }, .nilIface, .nilIface, l.drop 16, rfl, fun _ => by rw [← hr']; exact ⟨rfl, rfl⟩, by rw [← hr']; exact ErrV.nil _, ⟨⟨false, hB'⟩, k1⟩, k2, by show (l.take 16).length ≤ _; omega, h16⟩
      · cases hr'
    | msgEnd => exact (B_ReadMessageEnd _ _ w).mono fun _ _ hw => fin0 _ (by simpa [bnext] using hr'.symm) rfl trivial hw
    | structEnd => exact (B_ReadStructEnd _ _ w).mono fun _ _ hw => fin0 _ (by simpa [bnext] using hr'.symm) rfl trivial hw
    | fieldEnd => exact (B_ReadFieldEnd _ _ w).mono fun _ _ hw => fin0 _ (by simpa [bnext] using hr'.symm) rfl trivial hw
    | mapEnd => exact (B_ReadMapEnd _ _ w).mono fun _ _ hw => fin0 _ (by simpa [bnext] using hr'.symm) rfl trivial hw
    | listEnd => exact (B_ReadListEnd _ _ w).mono fun _ _ hw => fin0 _ (by simpa [bnext] using hr'.symm) rfl trivial hw
    | setEnd => exact (B_ReadSetEnd _ _ w).mono fun _ _ hw => fin0 _ (by simpa [bnext] using hr'.symm) rfl trivial hw
    | structBegin => exact (B_ReadStructBegin _ _ w).mono fun _ _ hw => fin0 _ (by simpa [bnext] using hr'.symm) rfl trivial hw
    | fieldBegin =>
      simp only [bnext] at hr'
      split at hr'
      · cases hr'
      · rename_i u r'
        split at hr'
        · rename_i hu
          subst hu
          injection hr' with hr'
          exact (B_ReadFieldStop p m b T cf z r' w hB).mono fun _ _ hw => fin {} .nilIface r' 1 _ hr'.symm rfl rfl rfl trivial hw
        · rename_i hu
          split at hr'
          · rename_i h2
            injection hr' with hr'
            exact (B_ReadFieldBegin p m b T cf z u r' w hB hu h2).mono fun _ _ hw => fin _ .nilIface _ 3 _ hr'.symm rfl rfl rfl trivial hw
          · cases hr'
    | mapBegin =>
      simp only [bnext] at hr'
      split at hr'
      · rename_i u1 u r'
        split at hr'
        · rename_i hc
          obtain ⟨h1, h2, hfit⟩ := hc
          obtain ⟨K1, hK1⟩ := minB_ex u1.toNat
          obtain ⟨K2, hK2⟩ := minB_ex u.toNat
          rw [hK1, hK2, ← Int.natCast_add] at hfit
          obtain ⟨N, hN, f1, f3, f4, f5, f6, f7, f8⟩ := fitsB_ex hfit
          rw [hN] at hr'
          injection hr' with hr'
          exact (B_ReadMapBegin p m b T cf c z u1 u r' N K1 K2 w hB hC f1 hN h1 h2 hK1 hK2 f3 f4 f5 f6 f7 f8).mono fun _ _ hw => fin _ .nilIface _ 6 _ hr'.symm rfl rfl rfl trivial hw
        · cases hr'
      · cases hr'
    | listBegin =>
      simp only [bnext] at hr'
      split at hr'
      · rename_i u r'
        split at hr'
        · rename_i hc
          obtain ⟨h2, hfit⟩ := hc
          obtain ⟨K2, hK2⟩ := minB_ex u.toNat
          rw [hK2] at hfit
          obtain ⟨N, hN, f1, f3, f4, f5, f6, f7, f8⟩ := fitsB_ex hfit
          rw [hN] at hr'
          injection hr' with hr'
          exact (B_ReadListBegin p m b T cf c z u r' N K2 w hB hC f1 hN h2 hK2 f3 f4 f5 f6 f7 f8).mono fun _ _ hw => fin _ .nilIface _ 5 _ hr'.symm rfl rfl rfl trivial hw
        · cases hr'
      · cases hr'
    | setBegin =>
      simp only [bnext] at hr'
      split at hr'
      · rename_i u r'
        split at hr'
        · rename_i hc
          obtain ⟨h2, hfit⟩ := hc
          obtain ⟨K2, hK2⟩ := minB_ex u.toNat
          rw [hK2] at hfit
          obtain ⟨N, hN, f1, f3, f4, f5, f6, f7, f8⟩ := fitsB_ex hfit
          rw [hN] at hr'
          injection hr' with hr'
          exact (B_ReadSetBegin p m b T cf c z u r' N K2 w hB hC f1 hN h2 hK2 f3 f4 f5 f6 f7 f8).mono fun _ _ hw => fin _ .nilIface _ 5 _ hr'.symm rfl rfl rfl trivial hw
        · cases hr'
      · cases hr'
    | bool =>
      simp only [bnext] at hr'
      split at hr'
      · rename_i u r'
        injection hr' with hr'
        exact (B_ReadBool p m b T cf _ z u r' w hB).mono fun _ _ hw => fin _ .nilIface _ 1 _ hr'.symm rfl rfl rfl trivial hw
      · cases hr'
    | byte =>
      simp only [bnext] at hr'
      split at hr'
      · rename_i u r'
        injection hr' with hr'
        exact (B_ReadByte p m b T cf _ z u r' w hB).mono fun _ _ hw => fin _ .nilIface _ 1 _ hr'.symm rfl rfl rfl trivial hw
      · cases hr'
    | i16 =>
      simp only [bnext] at hr'
      split at hr'
      · rename_i h2
        injection hr' with hr'
        exact (B_ReadI16 p m b T cf z l w hB h2).mono fun _ _ hw => fin _ .nilIface _ 2 _ hr'.symm rfl rfl rfl trivial hw
      · cases hr'
    | i32 =>
      simp only [bnext] at hr'
      split at hr'
      · rename_i h2
        injection hr' with hr'
        exact (B_ReadI32 p m b T cf z l w hB h2).mono fun _ _ hw => fin _ .nilIface _ 4 _ hr'.symm rfl rfl rfl trivial hw
      · cases hr'
    | i64 =>
      simp only [bnext] at hr'
      split at hr'
      · rename_i h2
        injection hr' with hr'
        exact (B_ReadI64 p m b T cf z l w hB h2).mono fun _ _ hw => fin _ .nilIface _ 8 _ hr'.symm rfl rfl rfl trivial hw
      · cases hr'
    | double =>
      simp only [bnext] at hr'
      split at hr'
      · rename_i h2
        injection hr' with hr'
        exact (B_ReadDouble p m b T cf z l w hB h2).mono fun _ _ hw => fin _ .nilIface _ 8 _ hr'.symm rfl rfl rfl trivial hw
      · cases hr'
  keep h hf hn := by
    obtain ⟨⟨z, hB⟩, hC⟩ := h
    obtain ⟨h1, h2⟩ := hB.old hf (hn _ (Or.inr (Or.inl rfl))) fun k hk => hn k (Or.inl hk)
    obtain ⟨h3, h4⟩ := hC.same fun k hk => by
      obtain ⟨cs, t, hb, _⟩ := hC.tagged hk
      exact hf.keep k (lt_heap hb) (hn k (Or.inr (Or.inr hk)))
    refine ⟨⟨⟨z, h1⟩, h3⟩, fun k hk => ?_⟩
    rcases hk with hk | hk | hk
    · exact Or.inl (h2 k hk)
    · exact Or.inr (Or.inl hk)
    · exact Or.inr (Or.inr (h4 k hk))
  lt h hk := by
    obtain ⟨⟨z, hB⟩, hC⟩ := h
    rcases hk with hk | rfl | hk
    · exact BPF.lt hB hk
    · obtain ⟨sz, hm⟩ := hB.mem; exact lt_heap hm
    · obtain ⟨cs, t, hb, _⟩ := hC.tagged hk; exact lt_heap hb
end Go.Proofs.YtkfkieebcahiiaaGreatDoor
namespace Go.Proofs.YtkfkieebcahiiaaGreatDoor
open Go Go.RowKit
set_option maxHeartbeats 2000000
set_option maxRecDepth 100000

noncomputable def brun (c : ConfV) : List UInt8 → List Stp → Option (List GotD × List UInt8)
  | l, [] => some ([], l)
  | l, x :: xs => match x.rop with
    | none => none
    | some op => match bnext c l op with
      | some (k, v, l') => if k = 0 then (brun c l' xs).map fun y => (op.got v :: y.1, y.2) else none
      | none => none
theorem rrun_B (p m b T : Nat) (cf : Value) (c : ConfV) : ∀ (xs : List Stp) (l : List UInt8), rrun (protoRB p m b T cf c) l xs = brun c l xs
  | [], l => rfl
  | x :: xs, l => by
    unfold rrun brun
    simp only [rrun_B p m b T cf c xs]
    cases x.rop with
    | none => rfl
    | some op =>
      have e : (protoRB p m b T cf c).next l op = bnext c l op := rfl
      simp only [e]
      cases bnext c l op with
      | none => rfl
      | some y => rfl

/-- Gots in new memory. -/
def GotsV (w : World) (base : Nat) (v : Value) (gs : List GotD) : Prop :=
  ∃ vs : List Value, gs.length = vs.length ∧ w.ownsRow base TGot 7 v gs.length (gotCells gs vs) ∧ ∀ (j : Nat) g u, gs[j]? = some g → vs[j]? = some u → Rd w u g.s ∧ ∀ k, vblk u k → base ≤ k
def ReadR (w : World) (gs : List GotD) (left : Nat) (e : Ending) (w' : World) : Prop := ∃ v, e = .returned (.tuple #[v, .int .i64 left]) ∧ GotsV w' w.heap.size v gs ∧ Fr noF noF w w'

/-- What stands when steps have been read. -/
structure REnd (w w3 : World) (m b T : Nat) (z : Bool) (l : List UInt8) (gs : List GotD) (v : Value) : Prop where
  mem : w3.cell? ⟨m, 0, none⟩ = some (.pointer (some ⟨b, 0, none⟩))
  buf : Buf w3 b T z l
  fr : Fr noF noF w w3
  got : GotsV w3 w.heap.size v gs
theorem GotsV.drewN {w : World} {base : Nat} {v : Value} {gs : List GotD} (h : GotsV w base v gs) (q : Nat) : GotsV (w.drewN q) base v gs := h

theorem read_prep (c : ConfV) (hc : c.proto ≠ 1) (sv : Value) (xs : List Stp) (l : List UInt8) (GS : List GotD) (rest : List UInt8) (w W0 : World) (hs : RdS w noF sv xs) (hn : xs.length ≤ 10000000) (hrun : brun c l xs = some (GS, rest)) (hf0 : Fr noF noF w W0)
    (m b T : Nat) (w1 : World) (hm : Mem w1 m b) (hb : Buf w1 b T true l) (hf : Fr noF (BF w1 b) W0 w1) (hmn : W0.heap.size ≤ m) :
    Calls Tryz.prog 44 #[c.val, memI m] w1 (fun e w2 => ∃ p, e = .returned (binI p) ∧ Calls Tryz.prog 63 #[binI p, sv] w2 (fun e w3 => ∃ v z, e = .returned v ∧ REnd w w3 m b T z rest GS v)) := by
  have hf1 : Fr noF (BF w1 b) w w1 := hf0.trans hf
  refine (ProtB_raw m b T true l c w1 hc hm hb).mono ?_
  rintro e w2 ⟨p, cf, rfl, hcf, hP, hF, hp, hcn⟩
  have hf2 : Fr noF (BPF w2 p b) w w2 := hf1.trans hF
  have hsz : w.heap.size ≤ w1.heap.size := hf1.size
  have hfA : Fr noF (BAll w2 p m b cf) w w2 := hf2.conv fun k hk hx => by
    rcases hx with hx | rfl | hx
    · exact hx
    · have := hf0.size; omega
    · have := hcn k hx; omega
  refine ⟨p, rfl, (I_reads (protoRB p m b T cf c) (protoRB_ok p m b T cf c) sv xs l rest GS w2 ⟨⟨true, hP⟩, hcf⟩ (hs.new hfA) hn (by rw [rrun_B]; exact hrun)).mono ?_⟩
  rintro e w3 ⟨v, vs, rfl, hR⟩
  obtain ⟨⟨⟨z, hB⟩, hC⟩, hfr, hlen, hown, hap, hea⟩ := hR
  have hsz2 := hf2.size
  refine ⟨v, z, rfl, hB.mem.cell, hB.buf, (hfA.trans hfr).conv fun k _ hk => hk.elim, vs, hlen, ?_, fun j g u hj hu => ⟨(hea j g u hj hu).1, fun k hk => by have := ((hea j g u hj hu).2 k hk).1; omega⟩⟩
  obtain ⟨e0, e1 | ⟨bb, cap, cur, e1, e2, e3⟩⟩ := hown
  · exact ⟨e0, Or.inl e1⟩
  · exact ⟨e0, Or.inr ⟨bb, cap, cur, e1, by omega, e3⟩⟩

theorem I_Read_B (c : ConfV) (hc : c.proto ≠ 1) (v sv : Value) (xs : List Stp) (l : List UInt8) (GS : List GotD) (rest : List UInt8) (w : World) (hv : Rd w v l) (hs : RdS w noF sv xs) (hn : xs.length ≤ 10000000) (hl : l.length ≤ LIM) (hrun : brun c l xs = some (GS, rest)) :
    Calls Tryz.prog 36 #[c.val, v, sv] w (ReadR w GS rest.length) := by
  have hf0 : Fr noF noF w (w.alloc (.cells #[.int .i64 c.proto, .bool c.plain, .bool c.sr, .bool c.sw, .int .i32 c.msg, .int .i32 c.con, .int .i32 c.fra] 23 (0, 0))) := (Fr.refl noF w).alloc _
  have hv2 := hv.keep hf0 fun _ _ x => x
  have h1 := I_holding v l _ hv2 hv2.blt hl
  have h2 := fun m b T w1 hm hb hf hmn => read_prep c hc sv xs l GS rest w _ hs hn hrun hf0 m b T w1 hm hb hf hmn
  obtain ⟨pr, pl, sr, sw, ms, co, fr⟩ := c
  obtain ⟨sa, sn, sc, rfl⟩ : ∃ a n c, sv = .slice a n c := by
    rcases hs with ⟨a, c, rfl, rfl⟩ | ⟨g, o, c, rfl, _⟩
    · exact ⟨_, _, _, rfl⟩
    · exact ⟨_, _, _, rfl⟩
  obtain ⟨va, vn, vc, rfl, -⟩ := hv.len
  have H1 := Lib.hid h1
  have H2 := Lib.hid h2
  clear h1 h2 hv hv2 hs hn hl hrun hc hf0
  go_enter Tryz.func36, Tryz.ntmps36
  go_wp2_with fail
  refine H1.out.mono ?_
  rintro e w1 ⟨m, b, rfl, hm, hb, hf, hmn⟩
  have n1 := hf.block (alloc_new w _) fun x => x
  have c0 := cell_at n1 0
  have c1 := cell_at n1 1
  have c2 := cell_at n1 2
  have c3 := cell_at n1 3
  have c4 := cell_at n1 4
  have c5 := cell_at n1 5
  have c6 := cell_at n1 6
  simp only [List.getElem?_toArray, List.getElem?_cons_zero, List.getElem?_cons_succ] at c0 c1 c2 c3 c4 c5 c6
  have HP := Lib.hid (H2.out m b _ w1 hm hb hf hmn)
  clear hm hb hf hmn n1
  go_wp2_with fail
  refine HP.out.mono ?_
  rintro e w2 ⟨p, rfl, hx⟩
  have HX := Lib.hid hx
  clear hx c0 c1 c2 c3 c4 c5 c6
  go_wp2_with fail
  refine HX.out.mono ?_
  rintro e w3 ⟨gv, z, rfl, hE⟩
  have m0 := hE.mem
  have HE := Lib.hid hE
  clear hE
  go_wp2_with fail
  refine (Buf_Len b _ z rest w3 HE.out.buf).mono ?_
  rintro e w4 ⟨rfl, q, rfl⟩
  clear m0
  go_wp2
  go_ret2
  exact ⟨gv, rfl, HE.out.got.drewN q, HE.out.fr.drewN q⟩
end Go.Proofs.YtkfkieebcahiiaaGreatDoor
