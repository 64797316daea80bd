/- The readers of uuids by the binary protocol. safeReadBytes: a text's bytes, read into new memory. safeReadBytes above 512 bytes. Binaries and texts read by the binary protocol. -/
import Derived.Lib.MinMax
import Derived.OwnWalk
import Derived.Laws.IdiomCopy
import Derived.Deep.RegionHeld3
import Derived.Test.YtkfkieebcahiiaaGreatDoorZ3
import Derived.Test.YtkfkieebcahiiaaGreatDoorZ5
import Derived.Test.YtkfkieebcahiiaaGreatDoorZ8
import Derived.Test.YtkfkieebcahiiaaGreatDoorZ6
set_option linter.all false
namespace Go.Proofs.YtkfkieebcahiiaaGreatDoor
open Go Go.RowKit
set_option maxHeartbeats 4000000
set_option maxRecDepth 100000
set_option linter.all false

/-- A new block is turned beside the protocol. -/
theorem BP.beside {w X Y : World} {p m b T : Nat} {cf : Value} {z : Bool} {l : List UInt8} {R : Nat} {cs : Array Value} {t : TypeId} (h : BP X p m b cf T z l) (hw : Fr (BPF w p b) (BPF X p b) w X) (hR : X.heap[R]? = some (.cells cs t (0, 0))) (hRw : w.heap.size ≤ R) (hn : ¬ BPF X p b R) (hm : R ≠ m)
    (hf : Fr (fun k => k = R) (fun k => k = R) X Y) : BP Y p m b cf T z l ∧ Fr (BPF w p b) (BPF Y p b) w Y := by
  obtain ⟨h1, h2⟩ := h.old hf (fun e => hm e.symm) fun k hk e => hn (by
    have e : k = R := e
    exact e ▸ hk)
  refine ⟨h1, hf.os.trans hw.os, hf.tape.trans hw.tape, hf.output.trans hw.output, Nat.le_trans hw.size hf.size, fun k hk hn' => (hf.keep k (Nat.lt_of_lt_of_le hk hw.size) fun e => ?_).trans (hw.keep k hk hn'), fun k hk hx => hw.foot k hk (h2 k hx)⟩
  have e : k = R := e
  omega

theorem B_ReadUUID (p m b T : Nat) (cf : Value) (z : Bool) (l : List UInt8) (w : World) (h : BP w p m b cf T z l) (hl : 16 ≤ l.length) :
    Calls Tryz.prog 250 #[.pointer (some ⟨p, 0, none⟩), ctxV] w (BR w p m b cf T l 16 (uuidV (l.take 16))) := by
  have hA := h.alloc (.cells zL.toArray TU (0, 0))
  have hr := B_read p m b T 16 cf z l _ hA.1 (by omega) (by omega) hl
  have hb0 := alloc_new w (.cells zL.toArray TU (0, 0))
  have hnot := hA.1.notin hb0 (by decide) (by decide) (by decide)
  have H := Lib.hid hr
  have HA := Lib.hid (And.intro hA (And.intro hb0 hnot))
  have HL := Lib.hid hl
  clear hr hA hb0 hnot h hl
  go_enter Tryz.func250, Tryz.ntmps250
  go_wp2_with fail
  refine H.out.mono ?_
  rintro e w1 ⟨rfl, hP, ⟨rs, hArr⟩, hF⟩
  have hR1 : w1.heap[w.heap.size]? = some (.cells zL.toArray TU (0, 0)) := hF.block HA.out.2.1 HA.out.2.2
  have hfw : Fr (BPF w p b) (BPF w1 p b) w w1 := HA.out.1.2.trans hF
  have hnR : ¬ BPF w1 p b w.heap.size := fun hk => HA.out.2.2 (hF.foot _ (lt_heap HA.out.2.1) hk)
  have hmR : w.heap.size ≠ m := fun e => by
    obtain ⟨sz, hM⟩ := hP.mem
    rw [← e, hR1] at hM
    injection hM with hM
    injection hM with _ hM _
    revert hM
    decide
  have hl16 : (Lib.byteCells (l.take 16)).length = 16 := by rw [bcells_length, List.length_take]; have := HL.out; omega
  have ht16 : (l.take 16).length = 16 := by rw [List.length_take]; have := HL.out; omega
  have hcp := run_copy_row (P := Tryz.prog) w1 24 24 3 5 w.heap.size 0 16 16 ⟨p, 3, none⟩ 16 64 zL.toArray TU (Lib.byteCells (l.take 16)) Tryz.underlying24 hinfo hR1 hl16
    (fun j u hj => by
      have hA' : w1.heap[p]? = some (.cells ([memI m, memI m, cf] ++ Lib.byteCells (l.take 16 ++ rs)).toArray TBP (0, 0)) := hArr
      rw [Lib.addr_add, cell_at hA']
      have hlt := (List.getElem?_eq_some_iff.1 hj).1
      rw [bcells_append]
      simp only [List.getElem?_toArray]
      rw [List.getElem?_append_right (by simp), show 3 + j - [memI m, memI m, cf].length = j by simp, List.getElem?_append_left hlt]
      exact hj)
    (by rw [hl16]; decide) (Lib.byteCells_one _)
  have hYe : (zL.toArray.toList.take 0 ++ Lib.byteCells (l.take 16) ++ zL.toArray.toList.drop (0 + (Lib.byteCells (l.take 16)).length)).toArray = (Lib.byteCells (l.take 16)).toArray := by
    rw [hl16]
    apply Array.ext'
    simp [zL]
  rw [hYe] at hcp
  have hW2 := setRow_heap w1 w.heap.size zL.toArray (Lib.byteCells (l.take 16)).toArray TU (0, 0) hR1
  have hfr2 : Fr (fun k => k = w.heap.size) (fun k => k = w.heap.size) w1 (w1.setRow w.heap.size (Lib.byteCells (l.take 16)).toArray) := (Fr.refl (fun k => k = w.heap.size) w1).setRow (Or.inl rfl) _
  obtain ⟨ds, hd1, hd2, hfr3⟩ := setCells_at w.heap.size (Lib.byteCells (l.take 16)) 0 (w1.setRow w.heap.size (Lib.byteCells (l.take 16)).toArray) _ TU hW2
  have hfin := hP.beside hfw hR1 (Nat.le_refl _) hnR hmR (hfr2.trans hfr3)
  have ho : (Lib.byteCells (l.take 16)).toArray.all (·.oneCell') = true := all_oneCell_toArray fun v hv => by simp only [Lib.byteCells, List.mem_map] at hv; obtain ⟨x, _, rfl⟩ := hv; rfl
  have hld : (loadVar TU ⟨w.heap.size, 0, none⟩).run Tryz.prog ((w1.setRow w.heap.size (Lib.byteCells (l.take 16)).toArray).setCells w.heap.size 0 (Lib.byteCells (l.take 16))) = .ok (.agg (Lib.byteCells (l.take 16)).toArray) ((w1.setRow w.heap.size (Lib.byteCells (l.take 16)).toArray).setCells w.heap.size 0 (Lib.byteCells (l.take 16))) := load_cells hW2 (by simp [hl16]) hl16
  have HR := Lib.hid (And.intro (range_of hW2) (And.intro (show (Tryz.prog.info? TU).map (·.size) = some (Lib.byteCells (l.take 16)).length by rw [info_TU, hl16]) (And.intro (there_of (n := (Lib.byteCells (l.take 16)).toArray.size) hW2 (Nat.le_refl _)) (And.intro (show (Tryz.prog.info? TU).map (·.size) = some (Lib.byteCells (l.take 16)).toArray.size by rw [info_TU]; simp [hl16]) ho))))
  have HX := Lib.hid (And.intro hld hfin)
  have u1 := Tryz.underlying175
  clear hR1 hfw hnR hmR hl16 ht16 hYe hW2 hfr2 hd1 hd2 hfr3 hfin ho hld hP hArr hF
  go_wp2_with (first | (refine wpList_load_mid rfl TU _ rfl w.heap.size 0 rfl (Lib.byteCells (l.take 16)) _ HR.out.1 u1 rfl HR.out.2.1 ?_) | (refine wpList_store_mid rfl TU _ _ rfl w.heap.size 0 (Lib.byteCells (l.take 16)).toArray rfl rfl HR.out.2.2.1 HR.out.2.2.2.1 HR.out.2.2.2.2 ?_))
  trace_state
  refine bodyPost_ret (v := .tuple #[uuidV (l.take 16), .nilIface]) (res_cell_tmp rfl _ _ w.heap.size (Lib.byteCells (l.take 16)).toArray .nilIface rfl rfl HX.out.1) rfl ⟨rfl, HX.out.2.1, HX.out.2.2⟩
end Go.Proofs.YtkfkieebcahiiaaGreatDoor
namespace Go.Proofs.YtkfkieebcahiiaaGreatDoor
open Go Go.RowKit
set_option maxHeartbeats 4000000
set_option maxRecDepth 100000
set_option linter.all false

theorem zeros_row {w : World} {base g m : Nat} (h : w.ownsRow base U8 1 (.slice (some ⟨g, 0, none⟩) m m) m (madeCells #[Value.int .u8 0] m).toList) : w.heap[g]? = some (.cells (Array.replicate m (.int .u8 0)) U8 (0, 0)) := by
  rcases h.2 with ⟨h0, _⟩ | ⟨g', cap, cur, hv, _, hg, h1, h2, h3, h4⟩
  · cases h0
  · injection hv with e1 e2 e3
    injection e1 with e1
    injection e1 with e1
    subst e1 e3
    rw [hg]
    congr 2
    apply Array.ext'
    rw [List.take_of_length_le (by rw [Array.length_toList, h3]; omega)] at h4
    rw [h4, toList_madeCells_one]
    simp
theorem upon_mk (kl kc : IntKind) {o : Oper} {a : Act} {next : Act → World → Prop} {Q : Exit → Act → World → Prop} (w : World) (n : Nat) (hn : n ≤ 1000000000)
    (hK : ∀ M, Fr noF noF w M → M.heap[w.heap.size]? = some (.cells (Array.replicate n (.int .u8 0)) U8 (0, 0)) → next (a.put o.dst (.slice (some ⟨w.heap.size, 0, none⟩) n n)) M) :
    Oper.upon Tryz.prog o a next Q ((Sem.run Tryz.prog (Instr.makeSlice 24 (.int kl (n : Int)) (.int kc (n : Int))) w).andThen fun a w' => Result.ok (Next.value a) w') := by
  obtain ⟨i0, hi, hz0, hz1, hz2⟩ := info_parts info_u8
  obtain ⟨w', hrun, r1, r2⟩ := run_make_full (P := Tryz.prog) w w.heap.size 24 U8 i0 (.int .u8 0) 1 Tryz.underlying24 hi hz0 hz1 kl kc n (by rw [hz2]; omega) (by unfold maxLen; omega) (Nat.le_refl _)
  rw [hrun]
  exact hK w' ((Fr.refl noF w).grown r2 (fun k hk => by cases hk)) (zeros_row (by rw [Nat.mul_one] at r1; exact r1))

theorem Buf.flt {w : World} {b T : Nat} {z : Bool} {l : List UInt8} (h : Buf w b T z l) {k : Nat} (hk : BF w b k) : k < w.heap.size := by
  rcases h with ⟨_, lr, hb⟩ | ⟨lr, r, n, c, o, cur, hb, hr, _⟩
  · rw [BF_nil hb hk]; exact lt_heap hb
  · rcases BF_of hb hk with rfl | rfl
    · exact lt_heap hb
    · exact lt_heap hr

/-- What is read: new bytes, so many fewer unread. -/
def SafeR (w : World) (b T : Nat) (l : List UInt8) (k : Nat) (e : Ending) (w' : World) : Prop :=
  ∃ g c z, e = .returned (.tuple #[.slice (some ⟨g, 0, none⟩) k c, .nilIface]) ∧ Rd w' (.slice (some ⟨g, 0, none⟩) k c) (l.take k) ∧ w.heap.size ≤ g ∧ Buf w' b T z (l.drop k) ∧ Fr (BF w b) (BF w' b) w w'

theorem ReadFull_zero (m : Nat) (g cap : Nat) (w : World) : Calls Tryz.prog 204 #[memI m, .slice (some ⟨g, 0, none⟩) 0 cap] w fun e w' => e = .returned (.tuple #[.int .i64 0, .nilIface]) ∧ w = w' := by
  have H : Calls Tryz.prog 221 #[memI m, .slice (some ⟨g, 0, none⟩) 0 cap, .int .i64 0] w fun e w' => e = .returned (.tuple #[.int .i64 0, .nilIface]) ∧ w = w' := by
    go_enter Tryz.func221, Tryz.ntmps221
    go_wp2_with fail
    go_loopw [6, 7, 8] (fun n e x wr => e = .nilIface ∧ n = .int .i64 0 ∧ wr = w) (fun n _ _ _ => 0)
    case atStart => exact ⟨rfl, rfl, rfl⟩
    case round =>
      obtain ⟨rfl, rfl, rfl⟩ := hrel
      go_wp2
      go_ret2
      exact ⟨rfl, rfl⟩
  have HH := Lib.hid H
  clear H
  go_enter Tryz.func204, Tryz.ntmps204
  go_wp2_with fail
  refine HH.out.mono ?_
  rintro e w2 ⟨rfl, rfl⟩
  go_wp2
  go_ret2
  exact ⟨rfl, rfl⟩

theorem safe_small (m b T : Nat) (z : Bool) (l : List UInt8) (k : Nat) (w : World) (hm : w.cell? ⟨m, 0, none⟩ = some (.pointer (some ⟨b, 0, none⟩))) (hmb : ¬ BF w b m) (h : Buf w b T z l) (hkl : k ≤ l.length) (hk : k ≤ 512) :
    Calls Tryz.prog 203 #[.int .i32 k, memI m] w (SafeR w b T l k) := by
  have hkI : (k : Int) ≤ 512 := by omega
  have hk0 : (0 : Int) ≤ (k : Int) := by omega
  have hml := World.block_lt_of_cell? w _ hm
  have hrf : ∀ M, Fr noF noF w M → M.heap[w.heap.size]? = some (.cells (Array.replicate k (.int .u8 0)) U8 (0, 0)) → Calls Tryz.prog 204 #[memI m, .slice (some ⟨w.heap.size, 0, none⟩) k k] M (fun e w' => e = .returned (.tuple #[.int .i64 k, .nilIface]) ∧ SafeR w b T l k (.returned (.tuple #[.slice (some ⟨w.heap.size, 0, none⟩) k k, .nilIface])) w') := fun M hf hg => by
    have hbb : M.heap[b]? = w.heap[b]? := hf.keep b h.lt (fun x => x)
    have hB := h.keep hf fun _ _ x => x
    have hF0 : Fr (BF w b) (BF M b) w M := ⟨hf.os, hf.tape, hf.output, hf.size, fun k hk _ => hf.keep k hk (fun x => x), fun k _ hx => (BF.of_same hbb).1 hx⟩
    rcases Nat.eq_zero_or_pos k with h0 | hp
    · subst h0
      refine (ReadFull_zero m w.heap.size 0 M).mono ?_
      rintro e w' ⟨rfl, rfl⟩
      refine ⟨rfl, _, _, z, rfl, ?_, Nat.le_refl _, by simpa using hB, hF0⟩
      exact Or.inr ⟨_, 0, 0, rfl, by simp, Nat.le_refl _, Nat.zero_le _, fun j u hj => by simp at hj⟩
    · have hnb : ¬ BF M b w.heap.size := fun hx => Nat.lt_irrefl _ (h.flt ((BF.of_same hbb).1 hx))
      refine (ReadFull_full m b T z l w.heap.size U8 _ 0 k k M (hf.cell hm fun x => x) (fun hx => hmb ((BF.of_same hbb).1 hx)) (by show m ≠ w.heap.size; have : m < w.heap.size := hml; omega) hB hkl hg (by simp) hp (Nat.le_refl _) (by unfold maxLen; omega) hnb).mono ?_
      rintro e w' ⟨rfl, h1, h2, h3⟩
      have hlen : (l.take k).length = k := by rw [List.length_take]; omega
      refine ⟨rfl, _, _, false, rfl, Or.inr ⟨_, k, k, rfl, hlen, Nat.le_refl _, by unfold maxLen; omega, fun j u hj => ?_⟩, Nat.le_refl _, h1, ?_⟩
      · have hc : (laid (Array.replicate k (Value.int .u8 0)) 0 (l.take k)) = (Lib.byteCells (l.take k)).toArray := by
          unfold laid
          congr 1
          rw [List.take_zero, List.nil_append, List.drop_of_length_le (by simp [hlen]), List.append_nil]
        rw [Lib.addr_add, cell_at h2, hc, Nat.zero_add]
        show ((Lib.byteCells (l.take k)).toArray)[j]? = _
        rw [List.getElem?_toArray]
        unfold Lib.byteCells
        rw [List.getElem?_map, hj]
        rfl
      · have e := hF0
        refine ⟨h3.os.trans hf.os, h3.tape.trans hf.tape, h3.output.trans hf.output, Nat.le_trans hf.size h3.size, fun j hj hn => (h3.keep j (Nat.lt_of_lt_of_le hj hf.size) fun hx => ?_).trans (hf.keep j hj fun x => x), fun j hj hx => ?_⟩
        · rcases hx with hx | hx
          · exact hn ((BF.of_same hbb).1 hx)
          · omega
        · rcases h3.foot j (Nat.lt_of_lt_of_le hj hf.size) (Or.inl hx) with hx | hx
          · exact (BF.of_same hbb).1 hx
          · omega
  have HR := Lib.hid hrf
  clear hrf hml hm hmb h hkl
  go_enter Tryz.func203, Tryz.ntmps203
  go_wp2_with fail
  refine upon_mk .i32 .i32 _ k (by omega) ?_
  intro M hf hg
  have HM := Lib.hid (HR.out M hf hg)
  clear hf hg
  go_wp2_with fail
  refine HM.out.mono ?_
  rintro e w' ⟨rfl, hS⟩
  have HS := Lib.hid hS
  clear hS
  go_wp2
  go_ret2
  exact HS.out
end Go.Proofs.YtkfkieebcahiiaaGreatDoor
namespace Go.Proofs.YtkfkieebcahiiaaGreatDoor
open Go Go.RowKit
set_option maxHeartbeats 4000000
set_option maxRecDepth 100000
set_option linter.all false

theorem cell_out (w : World) (b i j : Nat) (v : Value) (h : i ≠ j) : (w.setCell ⟨b, i, none⟩ v).cell? ⟨b, j, none⟩ = w.cell? ⟨b, j, none⟩ := by
  have := World.cell?_setCells_out b [v] i w ⟨b, j, none⟩ (fun _ _ => by
    show j < i ∨ i + 1 ≤ j
    omega)
  simpa [World.setCells] using this

/-- The reader's row is the one it was. -/
theorem Buf_Read_keeps (b T : Nat) (z : Bool) (l : List UInt8) (g : Nat) (Tg : TypeId) (cs : Array Value) (o k cap N : Nat) (hN : N = min l.length k) (w : World) (h : Buf w b T z l) (hl0 : l ≠ []) (hg : w.heap[g]? = some (.cells cs Tg (0, 0))) (hfit : o + k ≤ cs.size) (hk : 0 < k) (hfar : ¬ BF w b g) :
    Calls Tryz.prog 341 #[.pointer (some ⟨b, 0, none⟩), .slice (some ⟨g, o, none⟩) k cap] w (fun e w' => ReadP w b T l g Tg cs o N e w' ∧ w'.cell? ⟨b, 0, none⟩ = w.cell? ⟨b, 0, none⟩) := by
  have hE : ∀ w', Buf w' b T z l → Calls Tryz.prog 145 #[.pointer (some ⟨b, 0, none⟩)] w' fun e w'' => e = .returned (.bool false) ∧ ∃ q, w'.drewN q = w'' := fun w' hw' => by
    have := Buf_empty b T z l w' hw'
    rwa [show l.isEmpty = false by cases l <;> simp_all] at this
  obtain ⟨h1, fr1⟩ := h.setLast 0
  have hE1 := hE _ h1
  have f2 : w.frozen? ⟨b, 2, none⟩ = false := by
    rcases h with ⟨_, lr, h⟩ | ⟨lr, r, n, c, o, cur, h, _⟩ <;> exact free_at h 2
  have c2 : ∃ x, w.cell? ⟨b, 2, none⟩ = some x := by
    rcases h with ⟨_, lr, h⟩ | ⟨lr, r, n, c, o, cur, h, _⟩ <;> exact ⟨_, cell_at h 2⟩
  obtain ⟨x2, c2⟩ := c2
  have hrc : ∀ q, ∃ r n c ob Y, RCopy w ((w.setCell ⟨b, 2, none⟩ (.int .i8 0)).drewN (q + 1)) b T l g Tg cs o k cap N r n c ob Y := fun q =>
    rcopy cap N hN (W := ((w.setCell ⟨b, 2, none⟩ (.int .i8 0)).drewN (q + 1))) h1 (fr1.drewN (q + 1)) hl0 hg hfit hfar
  have H1 := Lib.hid hE1
  have HR := Lib.hid hrc
  have hpos : 0 < N := by have := List.length_pos_iff.2 hl0; omega
  clear hE hE1 h hrc h1 fr1 hg hfit hfar hl0 hN
  go_enter Tryz.func341, Tryz.ntmps341
  go_wp2_with (go_at_call 145; refine H1.out.mono ?_)
  rintro e W ⟨rfl, q, rfl⟩
  go_wp2_with fail
  obtain ⟨r, n, c, ob, Y, hC⟩ := HR.out q
  have c0 := hC.c0
  have c1 := hC.c1
  have d0 := hC.d0
  have d1 := hC.d1
  have hlt := hC.lt
  have hle := hC.le
  have hmx := hC.mx
  have hrun := hC.run
  have HC := Lib.hid hC
  clear hC c2 f2
  have i1 : (0 : Int) ≤ (ob : Int) := by omega
  have i2 : (ob : Int) ≤ (n : Int) := by omega
  have i3 : ¬ c = ob := by omega
  go_region_held3 (fun w' => w'.cell? ⟨b, 0, none⟩ = some (.slice (some ⟨r, 0, none⟩) n c) ∧ w'.cell? ⟨b, 1, none⟩ = some (.int .i64 ((ob : Nat) : Int))) (first | exact ⟨c0, c1⟩ | exact ⟨d0, d1⟩) (fail)
  have f1 := HC.out.f1
  have f2 := HC.out.f2
  obtain ⟨x3, d2⟩ := HC.out.d2
  have hfit := HC.out.fit
  have hpos2 : (0 : Int) < (N : Int) := by omega
  have HF := Lib.hid (And.intro HC.out.fin (show ((((((w.setCell ⟨b, 2, none⟩ (.int .i8 0)).drewN (q + 1)).setRow g Y).setCell ⟨b, 1, none⟩ (.int .i64 ((ob : Nat) + N : Int))).setCell ⟨b, 2, none⟩ (.int .i8 (-1))).cell? ⟨b, 0, none⟩ = w.cell? ⟨b, 0, none⟩) from by
    rw [cell_out _ b 2 0 _ (by decide), cell_out _ b 1 0 _ (by decide), HC.out.d0, ← HC.out.c0]
    exact cell_out w b 2 0 _ (by decide)))
  have hsum : (ob : Int) + (N : Int) ≤ 9223372036854775807 := by unfold maxLen at hmx; omega
  clear HC hrun c0 c1
  unfold maxLen at hmx
  go_wp2
  go_ret2
  exact HF.out
theorem BF_same {X Y : World} {b : Nat} {z z' : Bool} {T : Nat} {l l' : List UInt8} (hX : Buf X b T z l) (hY : Buf Y b T z' l') (h : Y.cell? ⟨b, 0, none⟩ = X.cell? ⟨b, 0, none⟩) {k : Nat} (hk : BF Y b k) : BF X b k := by
  rcases hX with ⟨_, lr, hb⟩ | ⟨lr, r, n, c, o, cur, hb, _⟩
  · rw [cell_at hb] at h
    rcases hk with rfl | ⟨n', c', x, y, hk⟩
    · exact Or.inl rfl
    · rw [cell_at hk] at h
      simp at h
  · rw [cell_at hb] at h
    rcases hk with rfl | ⟨n', c', x, y, hk⟩
    · exact Or.inl rfl
    · rw [cell_at hk] at h
      simp at h
      obtain ⟨rfl, _⟩ := h
      exact BF_row hb

/-- Bytes read so far: L of them, in a new row g of C cells. -/
structure SfA (w : World) (m b T : Nat) (l : List UInt8) (g L C : Nat) (X : World) : Prop where
  buf : ∃ z, Buf X b T z (l.drop L)
  fr : Fr (BF w b) (BF X b) w X
  row : ∃ cur, X.heap[g]? = some (.cells cur U8 (0, 0)) ∧ cur.size = C ∧ cur.toList.take L = Lib.byteCells (l.take L)
  base : w.heap.size ≤ g
  apart : ¬ BF X b g
  mem : X.cell? ⟨m, 0, none⟩ = some (.pointer (some ⟨b, 0, none⟩))
  memn : ¬ BF X b m
theorem SfA.quiet {w X Y : World} {m b T : Nat} {l : List UInt8} {g L C : Nat} (h : SfA w m b T l g L C X) (hf : Fr noF noF X Y) : SfA w m b T l g L C Y := by
  obtain ⟨z, hb⟩ := h.buf
  have hbb : Y.heap[b]? = X.heap[b]? := hf.keep b hb.lt fun x => x
  obtain ⟨cur, h1, h2, h3⟩ := h.row
  exact ⟨⟨z, hb.keep hf fun _ _ x => x⟩, h.fr.trans ⟨hf.os, hf.tape, hf.output, hf.size, fun k hk _ => hf.keep k hk fun x => x, fun k _ hx => (BF.of_same hbb).1 hx⟩, ⟨cur, hf.block h1 fun x => x, h2, h3⟩, h.base, fun hx => h.apart ((BF.of_same hbb).1 hx), hf.cell h.mem fun x => x, fun hx => h.memn ((BF.of_same hbb).1 hx)⟩

/-- The rest of the row is filled. -/
theorem SfA.fill {w X : World} {m b T : Nat} {l : List UInt8} {g L C : Nat} (h : SfA w m b T l g L C X) (hL : L < C) (hC : C ≤ l.length) (hm : m < w.heap.size) :
    Calls Tryz.prog 341 #[.pointer (some ⟨b, 0, none⟩), .slice (some ⟨g, L, none⟩) (C - L) (C - L)] X (fun e Y => e = .returned (.tuple #[.int .i64 ((C - L : Nat) : Int), .nilIface]) ∧ SfA w m b T l g C C Y) := by
  obtain ⟨z, hb⟩ := h.buf
  obtain ⟨cur, h1, h2, h3⟩ := h.row
  have hne : l.drop L ≠ [] := fun e => by
    have := congrArg List.length e
    rw [List.length_drop, List.length_nil] at this
    omega
  refine (Buf_Read_keeps b T z (l.drop L) g U8 cur L (C - L) (C - L) (C - L) (by rw [List.length_drop]; omega) X hb hne h1 (by omega) (by omega) h.apart).mono ?_
  rintro e Y ⟨⟨rfl, k1, k2, k3⟩, k4⟩
  have hlen : ((l.drop L).take (C - L)).length = C - L := by rw [List.length_take, List.length_drop]; omega
  have hcl : cur.toList.length = C := by rw [Array.length_toList, h2]
  have hxb : X.heap.size ≤ Y.heap.size := k3.size
  have hgl := lt_heap h1
  have hml : m ≠ g := by have := h.base; omega
  have hBF : ∀ k, BF Y b k → BF X b k := fun k hk => BF_same hb k1 k4 hk
  have hYg : ¬ BF Y b g := fun hx => h.apart (hBF g hx)
  refine ⟨rfl, ⟨false, by rw [List.drop_drop, show L + (C - L) = C by omega] at k1; exact k1⟩, ?_, ⟨_, k2, ?_, ?_⟩, h.base, hYg, ?_, ?_⟩
  · refine ⟨k3.os.trans h.fr.os, k3.tape.trans h.fr.tape, k3.output.trans h.fr.output, Nat.le_trans h.fr.size k3.size, fun j hj hn => (k3.keep j (Nat.lt_of_lt_of_le hj h.fr.size) fun hx => ?_).trans (h.fr.keep j hj hn), fun j hj hx => h.fr.foot j hj (hBF j hx)⟩
    rcases hx with hx | hx
    · exact hn (h.fr.foot j hj hx)
    · have := h.base; omega
  · unfold laid
    simp only [List.size_toArray, List.length_append, List.length_take, List.length_drop, bcells_length, hcl, hlen]
    omega
  · unfold laid
    rw [List.toList_toArray]
    have e1 : (cur.toList.take L ++ Lib.byteCells ((l.drop L).take (C - L))).length = C := by rw [List.length_append, List.length_take, hcl, bcells_length, hlen]; omega
    rw [List.take_append_of_le_length (by rw [e1]; exact Nat.le_refl _), List.take_of_length_le (by rw [e1]; exact Nat.le_refl _), h3, ← bcells_append]
    congr 1
    rw [show C = L + (C - L) by omega, List.take_add]
    simp
  · exact k3.cell h.mem fun hx => hx.elim h.memn hml
  · exact fun hx => h.memn (hBF m hx)
/-- A longer row. -/
theorem SfA.grow {w X : World} {m b T : Nat} {l : List UInt8} {g L C C' : Nat} (h : SfA w m b T l g L C X) (hLC : L ≤ C) (hL : L ≤ l.length) (hC' : L ≤ C') (hm : m < w.heap.size) :
    ∃ Z W', (Builtin.copy_ #[24, 24] 3 #[.slice (some ⟨X.heap.size, 0, none⟩) L C', .slice (some ⟨g, 0, none⟩) L C]).run Tryz.prog (X.alloc (.cells (madeCells #[.int .u8 0] C') U8)) = .ok Z W' ∧ SfA w m b T l X.heap.size L C' W' := by
  obtain ⟨cur, h1, h2, h3⟩ := h.row
  obtain ⟨z, hb⟩ := h.buf
  have hq := h.quiet ((Fr.refl noF X).alloc (.cells (madeCells #[.int .u8 0] C') U8))
  have hg1 := alloc_new X (.cells (madeCells #[Value.int .u8 0] C') U8 (0, 0))
  have hlen : (Lib.byteCells (l.take L)).length = Nat.min L L := by
    rw [bcells_length, List.length_take]
    show min L l.length = min L L
    omega
  have hcp := run_copy_row (P := Tryz.prog) (X.alloc (.cells (madeCells #[.int .u8 0] C') U8)) 24 24 3 5 X.heap.size 0 L C' ⟨g, 0, none⟩ L C (madeCells #[.int .u8 0] C') U8 (Lib.byteCells (l.take L)) Tryz.underlying24 hinfo hg1 hlen
    (fun j u hj => by
      rw [Lib.addr_add, cell_at (alloc_at h1)]
      rw [← h3, List.getElem?_take] at hj
      split at hj
      · simpa using hj
      · cases hj)
    (by rw [hlen, size_madeCells]; show 0 + min L L ≤ C'; omega) (Lib.byteCells_one _)
  refine ⟨_, _, hcp, ?_⟩
  have hr := setRow_heap (X.alloc (.cells (madeCells #[.int .u8 0] C') U8)) X.heap.size _ ((madeCells #[.int .u8 0] C').toList.take 0 ++ Lib.byteCells (l.take L) ++ (madeCells #[.int .u8 0] C').toList.drop (0 + (Lib.byteCells (l.take L)).length)).toArray _ _ hg1
  have hf : Fr (fun k => k = X.heap.size) (fun k => k = X.heap.size) (X.alloc (.cells (madeCells #[.int .u8 0] C') U8)) ((X.alloc (.cells (madeCells #[.int .u8 0] C') U8)).setRow X.heap.size ((madeCells #[.int .u8 0] C').toList.take 0 ++ Lib.byteCells (l.take L) ++ (madeCells #[.int .u8 0] C').toList.drop (0 + (Lib.byteCells (l.take L)).length)).toArray) := (Fr.refl (fun k => k = X.heap.size) _).setRow (Or.inl rfl) _
  obtain ⟨z', hb'⟩ := hq.buf
  have hnb : ∀ k, BF (X.alloc (.cells (madeCells #[.int .u8 0] C') U8)) b k → k < X.heap.size := fun k hk => hb.flt ((BF.of_same (Below.heap_alloc X _ b hb.lt)).1 hk)
  have hbne : b ≠ X.heap.size := fun e => by have := hb.lt; omega
  have hbb := setRow_other (X.alloc (.cells (madeCells #[.int .u8 0] C') U8)) X.heap.size b ((madeCells #[.int .u8 0] C').toList.take 0 ++ Lib.byteCells (l.take L) ++ (madeCells #[.int .u8 0] C').toList.drop (0 + (Lib.byteCells (l.take L)).length)).toArray hbne
  have hmX : m < X.heap.size := by have := h.fr.size; omega
  refine ⟨⟨z', hb'.keep hf fun k hk e => by have := hnb k hk; omega⟩, ⟨hf.os.trans hq.fr.os, hf.tape.trans hq.fr.tape, hf.output.trans hq.fr.output, Nat.le_trans hq.fr.size hf.size, fun j hj hn => (hf.keep j (Nat.lt_of_lt_of_le hj hq.fr.size) fun e => ?_).trans (hq.fr.keep j hj hn), fun j hj hx => hq.fr.foot j hj ((BF.of_same hbb).1 hx)⟩, ⟨_, hr, ?_, ?_⟩, h.fr.size, ?_, ?_, ?_⟩
  · have e : j = X.heap.size := e
    have := h.fr.size
    omega
  · simp only [List.size_toArray, List.take_zero, List.nil_append, List.length_append, List.length_drop, Array.length_toList, size_madeCells, bcells_length, List.length_take]
    omega
  · simp only [List.toList_toArray, List.take_zero, List.nil_append]
    rw [List.take_append_of_le_length (by rw [bcells_length, List.length_take]; omega), List.take_of_length_le (by rw [bcells_length, List.length_take]; omega)]
  · exact fun hx => Nat.lt_irrefl _ (hnb _ ((BF.of_same hbb).1 hx))
  · exact hf.cell hq.mem fun e => by
      have e : m = X.heap.size := e
      omega
  · exact fun hx => hq.memn ((BF.of_same hbb).1 hx)

theorem upon_mk2 (kl kc : IntKind) {o : Oper} {a : Act} {next : Act → World → Prop} {Q : Exit → Act → World → Prop} (w : World) (L C : Nat) (hLC : L ≤ C) (hC : C ≤ 1000000000) (x y : Int) (hx : x = (L : Int)) (hy : y = (C : Int))
    (hK : next (a.put o.dst (.slice (some ⟨w.heap.size, 0, none⟩) L C)) (w.alloc (.cells (madeCells #[.int .u8 0] C) U8))) :
    Oper.upon Tryz.prog o a next Q ((Sem.run Tryz.prog (Instr.makeSlice 24 (.int kl x) (.int kc y)) w).andThen fun a w' => Result.ok (Next.value a) w') := by
  subst hx hy
  obtain ⟨i0, hi, hz0, hz1, hz2⟩ := info_parts info_u8
  have hr := run_make (P := Tryz.prog) w 24 U8 i0 (.int .u8 0) Tryz.underlying24 hi hz0 kl kc L C (by omega) (by omega) (by rw [hz2]; omega) (by omega)
  simp only [Int.toNat_natCast, hz1, Nat.mul_one] at hr
  rw [hr]
  exact hK
def slen : Value → Nat
  | .slice _ n _ => n
  | _ => 0
theorem SfA.done {w X : World} {m b T : Nat} {l : List UInt8} {g C : Nat} (h : SfA w m b T l g C C X) (hC : C ≤ l.length) (hC2 : C ≤ 1000000000) : SafeR w b T l C (.returned (.tuple #[.slice (some ⟨g, 0, none⟩) C C, .nilIface])) X := by
  obtain ⟨cur, h1, h2, h3⟩ := h.row
  obtain ⟨z, hb⟩ := h.buf
  refine ⟨g, C, z, rfl, Or.inr ⟨_, C, C, rfl, by rw [List.length_take]; omega, Nat.le_refl _, by unfold maxLen; omega, fun j u hj => ?_⟩, h.base, hb, h.fr⟩
  rw [Lib.addr_add, cell_at h1, Nat.zero_add]
  have hb' : (Lib.byteCells (l.take C))[j]? = some (.int .u8 u.toNat) := by
    unfold Lib.byteCells
    rw [List.getElem?_map, hj]
    rfl
  rw [← h3, List.getElem?_take] at hb'
  split at hb'
  · simpa using hb'
  · cases hb'
theorem safe_large (m b T : Nat) (z : Bool) (l : List UInt8) (k : Nat) (w : World) (hm : w.cell? ⟨m, 0, none⟩ = some (.pointer (some ⟨b, 0, none⟩))) (hmb : ¬ BF w b m) (h : Buf w b T z l) (hkl : k ≤ l.length) (hk : 512 < k) (hk2 : k ≤ 1000000) :
    Calls Tryz.prog 203 #[.int .i32 k, memI m] w (SafeR w b T l k) := by
  have hkI : (512 : Int) < (k : Int) := by omega
  have hkI2 : (k : Int) ≤ 1000000 := by omega
  have hml := World.block_lt_of_cell? w _ hm
  have hA0 : SfA w m b T l w.heap.size 0 512 (w.alloc (.cells (madeCells #[.int .u8 0] 512) U8)) := by
    have hf := (Fr.refl noF w).alloc (.cells (madeCells #[.int .u8 0] 512) U8 (0, 0))
    have hbb : (w.alloc (.cells (madeCells #[.int .u8 0] 512) U8)).heap[b]? = w.heap[b]? := hf.keep b h.lt fun x => x
    exact ⟨⟨z, by rw [List.drop_zero]; exact h.keep hf fun _ _ x => x⟩, ⟨hf.os, hf.tape, hf.output, hf.size, fun k hk _ => hf.keep k hk fun x => x, fun k _ hx => (BF.of_same hbb).1 hx⟩, ⟨_, alloc_new w _, size_madeCells _ _, by rw [List.take_zero, List.take_zero]; rfl⟩, Nat.le_refl _, fun hx => Nat.lt_irrefl _ (h.flt ((BF.of_same hbb).1 hx)), hf.cell hm fun x => x, fun hx => hmb ((BF.of_same hbb).1 hx)⟩
  have hmw : m < w.heap.size := hml
  have HA0 := Lib.hid hA0
  have HM := Lib.hid (And.intro hmw hkl)
  clear hA0 hmw hml hm hmb h hkl
  go_enter Tryz.func203, Tryz.ntmps203
  go_wp2_with fail
  refine upon_mk2 .i64 .i64 _ 0 512 (by decide) (by decide) _ _ rfl rfl ?_
  go_wp2_with fail
  go_loopw [10] (fun v wr => ∃ g L C, v = .slice (some ⟨g, 0, none⟩) L C ∧ SfA w m b T l g L C wr ∧ (L = C ∨ (L = 0 ∧ C = 512)) ∧ C ≤ k ∧ 0 < C) (fun v _ => k - slen v)
  case atStart => exact ⟨_, _, _, rfl, HA0.out, Or.inr ⟨rfl, rfl⟩, by omega, by decide⟩
  case round =>
    obtain ⟨g, L, C, rfl, hA, hLC, hCk, hC0⟩ := hrel
    have hL0 : (0 : Int) ≤ (L : Int) := by omega
    have hCI : (C : Int) ≤ 1000000 := by omega
    by_cases hdone : L = k
    · have hLCe : L = C := by omega
      subst hLCe
      subst hdone
      have HD := Lib.hid (hA.done HM.out.2 (by omega))
      clear hA hLC hCk hC0 HA0
      go_wp2
      go_ret2
      exact HD.out
    · have hLk : (L : Int) < (k : Int) := by omega
      rcases hLC with rfl | ⟨rfl, rfl⟩
      · obtain ⟨C2, hC2⟩ : ∃ C2 : Nat, C2 = min (L * 2) k := ⟨_, rfl⟩
        have hmin : min ((L : Int) * 2) (k : Int) = (C2 : Int) := by omega
        have h2 : L < C2 ∧ C2 ≤ k := by omega
        obtain ⟨Z, W', hcp, hA2⟩ := hA.grow (C' := C2) (Nat.le_refl _) (by have := HM.out.2; omega) (by omega) HM.out.1
        have HA2 := Lib.hid hA2
        clear hA hA2 HA0 hC2
        go_wp2_with fail
        refine upon_mk2 .i64 .i64 _ L C2 (by omega) (by omega) _ _ rfl rfl ?_
        go_wp2_with fail
        have hA3 := HA2.out.quiet ((Fr.refl noF W').drew)
        have hm := hA3.mem
        have hme : (method 512 PM (.pointer (some ⟨m, 0, none⟩)) "Read").run Tryz.prog W'.drew = .ok (341, .pointer (some ⟨b, 0, none⟩)) W'.drew := meth_Read hm
        have ha := ahead_Read
        have HF := Lib.hid (hA3.fill h2.1 (by have := HM.out.2; omega) HM.out.1)
        have hLC2 : (L : Int) ≤ (C2 : Int) := by omega
        have hC2I : (C2 : Int) ≤ 1000000 := by omega
        have hnL : L ≤ C2 := by omega
        have hneL : ¬ C2 = L := by omega
        have hsub : L + (C2 - L) = C2 := by omega
        have hsubI : (L : Int) + ((C2 - L : Nat) : Int) = (C2 : Int) := by omega
        have H2 := Lib.hid h2
        clear hA3 hcp hmin h2
        go_region_held3 (fun X => X.cell? ⟨m, 0, none⟩ = some (.pointer (some ⟨b, 0, none⟩))) (first | exact hm | exact d0) ((go_at_call 341; (with_reducible refine HF.out.mono ?_); rintro e Y ⟨rfl, hY⟩; have d0 := hY.mem; have HY := Lib.hid hY; clear hY))
        all_goals go_wp2_with fail
        all_goals exact ⟨⟨_, _, _, rfl, HY.out, Or.inl rfl, H2.out.2, by have := H2.out.1; omega⟩, by have h3 := H2.out.1; have h4 := H2.out.2; show k - C2 < k - L; omega⟩
      · have HA2 := Lib.hid hA
        clear hA HA0
        go_wp2_with fail
        have hA3 := HA2.out.quiet ((Fr.refl noF wr).drew)
        have hm := hA3.mem
        have hme : (method 512 PM (.pointer (some ⟨m, 0, none⟩)) "Read").run Tryz.prog wr.drew = .ok (341, .pointer (some ⟨b, 0, none⟩)) wr.drew := meth_Read hm
        have ha := ahead_Read
        have HF := Lib.hid (hA3.fill (by decide) (by have := HM.out.2; omega) HM.out.1)
        have H2 := Lib.hid hCk
        clear hA3
        go_region_held3 (fun X => X.cell? ⟨m, 0, none⟩ = some (.pointer (some ⟨b, 0, none⟩))) (first | exact hm | exact d0) ((go_at_call 341; (with_reducible refine HF.out.mono ?_); rintro e Y ⟨rfl, hY⟩; have d0 := hY.mem; have HY := Lib.hid hY; clear hY))
        all_goals go_wp2_with fail
        all_goals exact ⟨⟨_, _, _, rfl, HY.out, Or.inl rfl, H2.out, by decide⟩, by have h4 := H2.out; show k - 512 < k - 0; omega⟩

theorem T_safeReadBytes (m b T : Nat) (z : Bool) (l : List UInt8) (k : Nat) (w : World) (hm : w.cell? ⟨m, 0, none⟩ = some (.pointer (some ⟨b, 0, none⟩))) (hmb : ¬ BF w b m) (h : Buf w b T z l) (hkl : k ≤ l.length) (hk2 : k ≤ 1000000) :
    Calls Tryz.prog 203 #[.int .i32 k, memI m] w (SafeR w b T l k) := by
  rcases Nat.lt_or_ge 512 k with hk | hk
  · exact safe_large m b T z l k w hm hmb h hkl hk hk2
  · exact safe_small m b T z l k w hm hmb h hkl hk
end Go.Proofs.YtkfkieebcahiiaaGreatDoor
namespace Go.Proofs.YtkfkieebcahiiaaGreatDoor
open Go Go.RowKit
set_option maxHeartbeats 4000000
set_option maxRecDepth 100000
set_option linter.all false

/-- The protocol behind a reading of its buffer. -/
theorem BP.read {w X : World} {p m b T : Nat} {cf : Value} {z z' : Bool} {l l' : List UInt8} (h : BP w p m b cf T z l) (hb : Buf X b T z' l') (hf : Fr (BF w b) (BF X b) w X) : BP X p m b cf T z' l' ∧ Fr (BPF w p b) (BPF X p b) w X := by
  obtain ⟨⟨bf, hbf, ha⟩, ⟨sz, hM⟩, hB⟩ := h
  have hp := hf.block ha (hB.other ha (by decide) (by decide))
  have hm := hf.block hM (hB.other hM (by decide) (by decide))
  exact ⟨⟨⟨bf, hbf, hp⟩, ⟨sz, hm⟩, hb⟩, hf.os, hf.tape, hf.output, hf.size, fun k hk hn => hf.keep k hk fun hx => hn (Or.inr hx), fun k hk hx => hx.elim Or.inl fun hx => Or.inr (hf.foot k hk hx)⟩

/-- What ReadBinary leaves. -/
def BinR (w : World) (p m b : Nat) (cf : Value) (T : Nat) (l : List UInt8) (k : Nat) (e : Ending) (w' : World) : Prop :=
  ∃ g c z, e = .returned (.tuple #[.slice (some ⟨g, 0, none⟩) k c, .nilIface]) ∧ Rd w' (.slice (some ⟨g, 0, none⟩) k c) ((l.drop 4).take k) ∧ w.heap.size ≤ g ∧ BP w' p m b cf T z ((l.drop 4).drop k) ∧ Fr (BPF w p b) (BPF w' p b) w w'
theorem B_ReadBinary (p m b T : Nat) (cf : Value) (c : ConfV) (z : Bool) (l : List UInt8) (k : Nat) (w : World) (h : BP w p m b cf T z l) (hc : Cfg w cf c) (hl : 4 ≤ l.length) (hk : wrap32 (Lib.beNat (l.take 4)) = (k : Int)) (hkl : k ≤ (l.drop 4).length) (hk2 : k ≤ 1000000) (hmx : (k : Int) ≤ c.maxMsg) :
    Calls Tryz.prog 230 #[.pointer (some ⟨p, 0, none⟩), ctxV] w (BinR w p m b cf T l k) := by
  have h1 := B_ReadI32 p m b T cf z l w h hl
  rw [hk] at h1
  have hcX : ∀ X, BP X p m b cf T false (l.drop 4) → Fr (BPF w p b) (BPF X p b) w X → Cfg X cf c := fun X hX hf => (h.all hc hf).1
  have H1 := Lib.hid h1
  have HC := Lib.hid hcX
  have HL := Lib.hid (And.intro hkl (And.intro hk2 hmx))
  have hk0 : (0 : Int) ≤ (k : Int) := by omega
  clear h1 hcX h hc hl hk hkl hk2 hmx
  go_enter Tryz.func230, Tryz.ntmps230
  go_wp2_with fail
  refine H1.out.mono ?_
  rintro e w1 ⟨rfl, hP, hF⟩
  have d2 := hP.cfg
  have d0 := hP.trans
  have HP := Lib.hid (And.intro hP hF)
  have HK := Lib.hid (T_checkSize cf c k w1 (HC.out w1 hP hF) hk0 HL.out.2.2)
  obtain ⟨bf, hbf, harr⟩ := hP.arr
  obtain ⟨sz, hM⟩ := hP.mem
  have HS := Lib.hid (T_safeReadBytes m b T false (l.drop 4) k w1 hP.mem.cell (hP.buf.other hM (by decide) (by decide)) hP.buf HL.out.1 HL.out.2.1)
  clear hP hF harr hM
  go_wp2_with fail
  (with_reducible refine HK.out.mono ?_)
  rintro e w' ⟨rfl, rfl⟩
  go_wp2_with fail
  (with_reducible refine HS.out.mono ?_)
  rintro e w2 ⟨g, c', z', rfl, hr, hg, hb, hf⟩
  obtain ⟨hB, hFB⟩ := HP.out.1.read hb hf
  have HR := Lib.hid (show BinR w p m b cf T l k (.returned (.tuple #[.slice (some ⟨g, 0, none⟩) k c', .nilIface])) w2 from ⟨g, c', z', rfl, hr, Nat.le_trans HP.out.2.size hg, hB, HP.out.2.trans hFB⟩)
  clear hr hg hb hf hB hFB d0 d2
  go_wp2_with (go_at_call 201; refine (exc_nil _).mono ?_; rintro e w' ⟨rfl, rfl⟩)
  go_ret2
  exact HR.out

/-- What a text's reader leaves. -/
def StrR (w : World) (p m b : Nat) (cf : Value) (T : Nat) (l : List UInt8) (k : Nat) (e : Ending) (w' : World) : Prop :=
  ∃ z, e = .returned (.tuple #[.string ⟨(l.take k).toArray⟩, .nilIface]) ∧ BP w' p m b cf T z (l.drop k) ∧ Fr (BPF w p b) (BPF w' p b) w w'
theorem B_readStringBody (p m b T : Nat) (cf : Value) (z : Bool) (l : List UInt8) (k : Nat) (w : World) (h : BP w p m b cf T z l) (hkl : k ≤ l.length) (hk2 : k ≤ 1000000) :
    Calls Tryz.prog 282 #[.pointer (some ⟨p, 0, none⟩), .int .i32 k] w (StrR w p m b cf T l k) := by
  have d0 := h.trans
  obtain ⟨sz, hM⟩ := h.mem
  have HS := Lib.hid (T_safeReadBytes m b T z l k w h.mem.cell (h.buf.other hM (by decide) (by decide)) h.buf hkl hk2)
  have HP := Lib.hid h
  have hk0 : (0 : Int) ≤ (k : Int) := by omega
  clear h hM hkl hk2
  go_enter Tryz.func282, Tryz.ntmps282
  go_wp2_with fail
  (with_reducible refine HS.out.mono ?_)
  rintro e w2 ⟨g, c', z', rfl, hr, hg, hb, hf⟩
  have HX := Lib.hid (HP.out.read hb hf)
  have hcv : (convert 24 9 (.slice (some ⟨g, 0, none⟩) k c')).run Tryz.prog w2.drew = .ok (.string ⟨(l.take k).toArray⟩) w2.drew := conv_back (hr.keep (F := noF) (F' := noF) ((Fr.refl noF w2).drew) fun _ _ x => x)
  clear hr hg hb hf d0
  go_wp2_with fail
  go_region_held3 (fun w' => (convert 24 9 (.slice (some ⟨g, 0, none⟩) k c')).run Tryz.prog w' = .ok (.string ⟨(l.take k).toArray⟩) w') (exact hcv) (first | (go_at_call 201; refine (exc_nil _).mono ?_; rintro e w' ⟨rfl, rfl⟩) | fail)
  all_goals go_wp2_with fail
  all_goals go_ret2
  all_goals exact ⟨z', rfl, HX.out.1.drewN 1, HX.out.2.drewN 1⟩

theorem B_ReadString_0 (p m b T : Nat) (cf : Value) (c : ConfV) (z : Bool) (l : List UInt8) (w : World) (h : BP w p m b cf T z l) (hc : Cfg w cf c) (hl : 4 ≤ l.length) (hk : wrap32 (Lib.beNat (l.take 4)) = 0) (hmx : 0 ≤ c.maxMsg) :
    Calls Tryz.prog 247 #[.pointer (some ⟨p, 0, none⟩), ctxV] w (fun e w' => e = .returned (.tuple #[.string ⟨#[]⟩, .nilIface]) ∧ BP w' p m b cf T false (l.drop 4) ∧ Fr (BPF w p b) (BPF w' p b) w w') := by
  have h1 := B_ReadI32 p m b T cf z l w h hl
  rw [hk] at h1
  have hcX : ∀ X, BP X p m b cf T false (l.drop 4) → Fr (BPF w p b) (BPF X p b) w X → Cfg X cf c := fun X hX hf => (h.all hc hf).1
  have H1 := Lib.hid h1
  have HC := Lib.hid hcX
  have HL := Lib.hid hmx
  clear h1 hcX h hc hl hk hmx
  go_enter Tryz.func247, Tryz.ntmps247
  go_wp2_with fail
  refine H1.out.mono ?_
  rintro e w1 ⟨rfl, hP, hF⟩
  have d2 := hP.cfg
  have HP := Lib.hid (And.intro hP hF)
  have HK := Lib.hid (T_checkSize cf c 0 w1 (HC.out w1 hP hF) (by decide) HL.out)
  clear hP hF
  go_wp2_with fail
  (with_reducible refine HK.out.mono ?_)
  rintro e w' ⟨rfl, rfl⟩
  clear d2
  go_wp2_with fail
  go_ret2
  exact ⟨rfl, HP.out⟩

theorem B_ReadString_large (p m b T : Nat) (cf : Value) (c : ConfV) (z : Bool) (l : List UInt8) (k : Nat) (w : World) (h : BP w p m b cf T z l) (hc : Cfg w cf c) (hl : 4 ≤ l.length) (hk : wrap32 (Lib.beNat (l.take 4)) = (k : Int)) (hk64 : 64 ≤ k) (hkl : k ≤ (l.drop 4).length) (hk2 : k ≤ 1000000) (hmx : (k : Int) ≤ c.maxMsg) :
    Calls Tryz.prog 247 #[.pointer (some ⟨p, 0, none⟩), ctxV] w (fun e w' => ∃ z, e = .returned (.tuple #[.string ⟨((l.drop 4).take k).toArray⟩, .nilIface]) ∧ BP w' p m b cf T z ((l.drop 4).drop k) ∧ Fr (BPF w p b) (BPF w' p b) w w') := by
  have h1 := B_ReadI32 p m b T cf z l w h hl
  rw [hk] at h1
  have hcX : ∀ X, BP X p m b cf T false (l.drop 4) → Fr (BPF w p b) (BPF X p b) w X → Cfg X cf c := fun X hX hf => (h.all hc hf).1
  have H1 := Lib.hid h1
  have HC := Lib.hid hcX
  have HL := Lib.hid (And.intro hkl (And.intro hk2 hmx))
  have hk0 : (64 : Int) ≤ (k : Int) := by omega
  have hkz : ((k : Int) == 0) = false := beq_eq_false_iff_ne.2 (by omega)
  clear h1 hcX h hc hl hk hkl hk2 hmx hk64
  go_enter Tryz.func247, Tryz.ntmps247
  go_wp2_with fail
  refine H1.out.mono ?_
  rintro e w1 ⟨rfl, hP, hF⟩
  have d2 := hP.cfg
  have HP := Lib.hid (And.intro hP hF)
  have HK := Lib.hid (T_checkSize cf c k w1 (HC.out w1 hP hF) (by omega) HL.out.2.2)
  have HB := Lib.hid (B_readStringBody p m b T cf false (l.drop 4) k w1 hP HL.out.1 HL.out.2.1)
  clear hP hF
  go_wp2_with fail
  (with_reducible refine HK.out.mono ?_)
  rintro e w' ⟨rfl, rfl⟩
  clear d2
  go_wp2_with fail
  (with_reducible refine HB.out.mono ?_)
  rintro e w2 ⟨z', rfl, hB, hf⟩
  have HX := Lib.hid (And.intro hB (HP.out.2.trans hf))
  clear hB hf
  go_wp2_with fail
  go_ret2
  exact ⟨z', rfl, HX.out⟩

theorem B_rf (p m b T k : Nat) (cf : Value) (z : Bool) (l : List UInt8) (w : World) (h : BP w p m b cf T z l) (hk : 0 < k) (hk2 : k ≤ 64) (hkl : k ≤ l.length) :
    Calls Tryz.prog 204 #[memI m, .slice (some ⟨p, 3, none⟩) k 64] w (fun e w' => e = .returned (.tuple #[.int .i64 k, .nilIface]) ∧ BP w' p m b cf T false (l.drop k) ∧ Rd w' (.slice (some ⟨p, 3, none⟩) k 64) (l.take k) ∧ Fr (BPF w p b) (BPF w' p b) w w') := by
  obtain ⟨bf, hbf, ha⟩ := h.arr
  obtain ⟨sz, hm⟩ := h.mem
  have hmp : m ≠ p := tag_ne hm ha (by decide)
  refine (ReadFull_full m b T z l p TBP _ 3 k 64 w h.mem.cell (h.buf.other hm (by decide) (by decide)) hmp h.buf hkl ha ?_ hk hk2 (by unfold maxLen; omega) (h.buf.other ha (by decide) (by decide))).mono ?_
  · simp [Lib.byteCells, hbf]; omega
  rintro e w' ⟨rfl, h1, h2, h3⟩
  rw [laid_arr _ _ _ 3 rfl] at h2
  have hlen : (l.take k).length = k := by rw [List.length_take]; omega
  have hF : Fr (BPF w p b) (BPF w' p b) w w' := ⟨h3.os, h3.tape, h3.output, h3.size, fun k hk hn => h3.keep k hk (fun x => hn (x.elim Or.inr Or.inl)), fun k hk hx => (h3.foot k hk (hx.elim Or.inr Or.inl)).elim Or.inr Or.inl⟩
  have hmn : ¬ (BF w b m ∨ m = p) := fun x => x.elim (h.buf.other hm (by decide) (by decide)) hmp
  refine ⟨rfl, ⟨⟨_, by rw [List.length_append, List.length_drop, hlen, hbf]; omega, h2⟩, ⟨sz, h3.block hm hmn⟩, h1⟩, Or.inr ⟨_, k, 64, rfl, hlen, hk2, by decide, fun j u hj => ?_⟩, hF⟩
  rw [Lib.addr_add, cell_at h2, bcells_append]
  simp only [List.getElem?_toArray]
  have hb' : (Lib.byteCells (l.take k))[j]? = some (.int .u8 u.toNat) := by
    unfold Lib.byteCells
    rw [List.getElem?_map, hj]
    rfl
  rw [List.getElem?_append_right (by simp), show 3 + j - [memI m, memI m, cf].length = j by simp, List.getElem?_append_left (List.getElem?_eq_some_iff.1 hb').1]
  exact hb'

theorem B_ReadString_small (p m b T : Nat) (cf : Value) (c : ConfV) (z : Bool) (l : List UInt8) (k : Nat) (w : World) (h : BP w p m b cf T z l) (hc : Cfg w cf c) (hl : 4 ≤ l.length) (hk : wrap32 (Lib.beNat (l.take 4)) = (k : Int)) (hk1 : 0 < k) (hk64 : k < 64) (hkl : k ≤ (l.drop 4).length) (hmx : (k : Int) ≤ c.maxMsg) :
    Calls Tryz.prog 247 #[.pointer (some ⟨p, 0, none⟩), ctxV] w (fun e w' => ∃ z, e = .returned (.tuple #[.string ⟨((l.drop 4).take k).toArray⟩, .nilIface]) ∧ BP w' p m b cf T z ((l.drop 4).drop k) ∧ Fr (BPF w p b) (BPF w' p b) w w') := by
  have h1 := B_ReadI32 p m b T cf z l w h hl
  rw [hk] at h1
  have hcX : ∀ X, BP X p m b cf T false (l.drop 4) → Fr (BPF w p b) (BPF X p b) w X → Cfg X cf c := fun X hX hf => (h.all hc hf).1
  have H1 := Lib.hid h1
  have HC := Lib.hid hcX
  have HL := Lib.hid (And.intro hkl (And.intro hk1 hmx))
  have hk0 : (0 : Int) < (k : Int) := by omega
  have hk6 : (k : Int) < 64 := by omega
  have hkz : ((k : Int) == 0) = false := beq_eq_false_iff_ne.2 (by omega)
  have hk7 : (k : Int) ≤ 64 := by omega
  have hk8 : (0 : Int) ≤ (k : Int) := by omega
  have hk9 : k ≤ 64 := by omega
  have HK64 := Lib.hid hk64
  clear h1 hcX h hc hl hk hkl hmx hk64 hk1
  go_enter Tryz.func247, Tryz.ntmps247
  go_wp2_with fail
  refine H1.out.mono ?_
  rintro e w1 ⟨rfl, hP, hF⟩
  have d2 := hP.cfg
  have d0 := hP.trans
  have HP := Lib.hid (And.intro hP hF)
  have HK := Lib.hid (T_checkSize cf c k w1 (HC.out w1 hP hF) (by omega) HL.out.2.2)
  have HB := Lib.hid (B_rf p m b T k cf false (l.drop 4) w1 hP HL.out.2.1 (by have := HK64.out; omega) HL.out.1)
  clear hP hF
  go_wp2_with fail
  (with_reducible refine HK.out.mono ?_)
  rintro e w' ⟨rfl, rfl⟩
  clear d2
  go_wp2_with fail
  (with_reducible refine HB.out.mono ?_)
  rintro e w2 ⟨rfl, hB, hr, hf⟩
  have HX := Lib.hid (And.intro hB (HP.out.2.trans hf))
  have hcv : (convert 24 9 (.slice (some ⟨p, 3, none⟩) k 64)).run Tryz.prog w2.drew = .ok (.string ⟨((l.drop 4).take k).toArray⟩) w2.drew := conv_back (hr.keep (F := noF) (F' := noF) ((Fr.refl noF w2).drew) fun _ _ x => x)
  clear hB hf hr d0
  go_wp2_with fail
  go_region_held3 (fun w' => (convert 24 9 (.slice (some ⟨p, 3, none⟩) k 64)).run Tryz.prog w' = .ok (.string ⟨((l.drop 4).take k).toArray⟩) w') (exact hcv) (first | (go_at_call 201; refine (exc_nil _).mono ?_; rintro e w' ⟨rfl, rfl⟩) | fail)
  all_goals go_wp2_with fail
  all_goals go_ret2
  all_goals exact ⟨_, rfl, HX.out.1.drewN 1, HX.out.2.drewN 1⟩
end Go.Proofs.YtkfkieebcahiiaaGreatDoor
