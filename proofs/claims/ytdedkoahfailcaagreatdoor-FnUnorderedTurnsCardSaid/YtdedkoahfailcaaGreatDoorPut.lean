/- The thin package puts: a new buffer, a protocol, the value, the bytes. -/
import Derived.Test.YtdedkoahfailcaaGreatDoorPutN
import Derived.BigQuiet
namespace Go.Proofs.YtdedkoahfailcaaGreatDoor
open Go Go.RowKit
set_option maxHeartbeats 1000000
set_option maxRecDepth 100000

/-- What is read: the value's blocks lie in F. -/
def BytesP (w : World) (b : Nat) (l : List UInt8) (e : Ending) (w' : World) : Prop := ∃ v q, e = .returned v ∧ w' = w.drewN q ∧ Rd w' v l ∧ (∀ k, vblk v k → BF w b k)

theorem Buf_Bytes (b T : Nat) (z : Bool) (l : List UInt8) (w : World) (h : Buf w b T z l) : Calls Tryz.prog 55 #[.pointer (some ⟨b, 0, none⟩)] w (BytesP w b l) := by
  rcases h with ⟨rfl, lr, h⟩ | ⟨lr, r, n, c, o, cur, h, hr, hc, hm, ho, hn, hT, hl, hz⟩
  · have c0 := cell_at h 0
    have c1 := cell_at h 1
    simp at c0 c1
    have hfin : ∀ nq, BytesP w b [] (.returned (.slice none 0 0)) (w.drewN nq) := fun nq => ⟨_, nq, rfl, rfl, Or.inl ⟨rfl, rfl⟩, fun k hk => hk.elim⟩
    have HF := Lib.hid hfin
    clear h hfin
    go_enter Tryz.func55, Tryz.ntmps55
    go_wp2
    go_quiet (fail)
    go_wp2
    go_ret
    exact HF.out _
  · have c0 := cell_at h 0
    have c1 := cell_at h 1
    simp at c0 c1
    have hlen : l.length = n - o := by
      have := congrArg List.length hl
      rw [bcells_length, List.length_drop, List.length_take, Array.length_toList] at this
      omega
    have hf1 : ∀ nq, c = o → BytesP w b l (.returned (.slice (some ⟨r, 0, none⟩) (n - o) 0)) (w.drewN nq) := fun nq hco => by
      have h0 : n - o = 0 := by omega
      rw [h0] at hlen ⊢
      obtain rfl := List.eq_nil_of_length_eq_zero hlen
      refine ⟨_, nq, rfl, rfl, Or.inr ⟨_, 0, 0, rfl, rfl, Nat.le_refl _, Nat.zero_le _, fun j u hj => by simp at hj⟩, fun k hk => hk.elim⟩
    have hf2 : ∀ nq, BytesP w b l (.returned (.slice (some ⟨r, o, none⟩) (n - o) (c - o))) (w.drewN nq) := fun nq => by
      refine ⟨_, nq, rfl, rfl, Or.inr ⟨_, n - o, c - o, rfl, hlen, by omega, by omega, fun j u hj => ?_⟩, fun k hk => ?_⟩
      · have hg : (Lib.byteCells l)[j]? = some (.int .u8 u.toNat) := by simp [Lib.byteCells, hj]
        rw [← hl, List.getElem?_drop] at hg
        have hlt : o + j < n := by have := (List.getElem?_eq_some_iff.1 hj).1; omega
        rw [List.getElem?_take_of_lt hlt] at hg
        rw [Lib.addr_add, show (w.drewN nq).cell? ⟨r, o + j, none⟩ = w.cell? ⟨r, o + j, none⟩ from rfl, cell_at hr]
        simpa using hg
      · rcases hno : n - o with _ | y
        · rw [hno] at hk; exact hk.elim
        · rw [hno] at hk
          exact hk ▸ BF_row h
    have H1 := Lib.hid hf1
    have H2 := Lib.hid hf2
    have hon : (o : Int) ≤ n := by omega
    have hnc : (n : Int) ≤ c := by omega
    clear hf1 hf2 hl hlen hr hT hz hc h
    go_enter Tryz.func55, Tryz.ntmps55
    go_wp2
    go_quiet (fail)
    go_wp2
    · go_ret
      exact H1.out _ h
    · go_ret
      exact H2.out _

/-- A configuration's copy and a value's, in boxes side by side. -/
def Boxes (w' : World) (n : Nat) (pr : Int) (pl sr sw : Bool) (ms co fr : Int) (v0 v1 v2 v3 v4 v5 v6 : Value) : Prop :=
  w'.cell? ⟨n, 0, none⟩ = some (.int .i64 pr) ∧ w'.cell? ⟨n, 1, none⟩ = some (.bool pl) ∧ w'.cell? ⟨n, 2, none⟩ = some (.bool sr) ∧ w'.cell? ⟨n, 3, none⟩ = some (.bool sw) ∧ w'.cell? ⟨n, 4, none⟩ = some (.int .i32 ms) ∧ w'.cell? ⟨n, 5, none⟩ = some (.int .i32 co) ∧ w'.cell? ⟨n, 6, none⟩ = some (.int .i32 fr) ∧ w'.cell? ⟨n + 1, 0, none⟩ = some v0 ∧ w'.cell? ⟨n + 1, 1, none⟩ = some v1 ∧ w'.cell? ⟨n + 1, 2, none⟩ = some v2 ∧ w'.cell? ⟨n + 1, 3, none⟩ = some v3 ∧ w'.cell? ⟨n + 1, 4, none⟩ = some v4 ∧ w'.cell? ⟨n + 1, 5, none⟩ = some v5 ∧ w'.cell? ⟨n + 1, 6, none⟩ = some v6
theorem boxes {w : World} {n : Nat} {pr : Int} {pl sr sw : Bool} {ms co fr : Int} {v0 v1 v2 v3 v4 v5 v6 : Value} {t t' : TypeId} (h : w.heap[n]? = some (.cells #[.int .i64 pr, .bool pl, .bool sr, .bool sw, .int .i32 ms, .int .i32 co, .int .i32 fr] t (0, 0)))
    (h' : w.heap[n + 1]? = some (.cells #[v0, v1, v2, v3, v4, v5, v6] t' (0, 0))) : Boxes w n pr pl sr sw ms co fr v0 v1 v2 v3 v4 v5 v6 :=
  ⟨cell_at h 0, cell_at h 1, cell_at h 2, cell_at h 3, cell_at h 4, cell_at h 5, cell_at h 6, cell_at h' 0, cell_at h' 1, cell_at h' 2, cell_at h' 3, cell_at h' 4, cell_at h' 5, cell_at h' 6⟩

/-- What was put. -/
def PutR (w : World) (news : List UInt8) (e : Ending) (w' : World) : Prop :=
  ∃ v, e = .returned (.tuple #[v, .int .i64 0]) ∧ Rd w' v news ∧ (∀ k, vblk v k → w.heap.size ≤ k) ∧ Fr noF noF w w'

theorem kind_nil (w : World) : Calls Tryz.prog 58 #[.nilIface] w fun e w' => e = .returned (.int .i64 0) ∧ w = w' := by
  go_enter Tryz.func58, Tryz.ntmps58
  go_wp2
  go_ret
  exact ⟨rfl, rfl⟩

/-- What stands when all is put: the memory buffer m holds the bytes. -/
def PutEnd (w w3 : World) (m b : Nat) (news : List UInt8) : Prop := w3.cell? ⟨m, 0, none⟩ = some (.pointer (some ⟨b, 0, none⟩)) ∧ Buf w3 b news.length true news ∧ Fr noF (BF w3 b) w w3


theorem put_end {w w3 : World} {m b : Nat} {news : List UInt8} {v : Value} (h : PutEnd w w3 m b news) (q : Nat) (hR : Rd (w3.drewN q) v news) (hv : ∀ k, vblk v k → BF w3 b k) : PutR w news (.returned (.tuple #[v, .int .i64 0])) (w3.drewN q) :=
  ⟨v, rfl, hR, fun k hk => by
    rcases Nat.lt_or_ge k w.heap.size with hlt | hge
    · exact (h.2.2.foot k hlt (hv k hk)).elim
    · exact hge, (h.2.2.drewN q).conv fun _ _ x => x.elim⟩
theorem put_prep_B (pr : Int) (pl sr sw : Bool) (ms co fr : Int) (hc : pr ≠ 1) (v0 v1 v2 v3 v4 v5 v6 : Value) (news : List UInt8) (w : World)
    (hput : ∀ p m b cf w1, Fr noF (BPF w1 p b) w w1 → Cfg w1 cf ⟨pr, pl, sr, sw, ms, co, fr⟩ → BP w1 p m b cf 0 true [] → Calls Tryz.prog 59 #[binI p, .agg #[v0, v1, v2, v3, v4, v5, v6]] w1 (BW w1 p m b cf 0 [] news))
    (m b : Nat) (w1 : World) (hm : Mem w1 m b) (hb : Buf w1 b 0 true []) (hf : Fr noF (BF w1 b) ((w.alloc (.cells #[.int .i64 pr, .bool pl, .bool sr, .bool sw, .int .i32 ms, .int .i32 co, .int .i32 fr] 23 (0, 0))).alloc (.cells #[v0, v1, v2, v3, v4, v5, v6] 55 (0, 0))) w1) :
    Calls Tryz.prog 60 #[.agg #[.int .i64 pr, .bool pl, .bool sr, .bool sw, .int .i32 ms, .int .i32 co, .int .i32 fr], memI m] w1.drew (fun e w2 => ∃ p, e = .returned (binI p) ∧ Boxes w2 w.heap.size pr pl sr sw ms co fr v0 v1 v2 v3 v4 v5 v6 ∧
      Calls Tryz.prog 59 #[binI p, .agg #[v0, v1, v2, v3, v4, v5, v6]] w2 (fun e w3 => e = .returned .nilIface ∧ Boxes w3 w.heap.size pr pl sr sw ms co fr v0 v1 v2 v3 v4 v5 v6 ∧ PutEnd w w3 m b news)) := by
  have hm' : Mem w1.drew m b := hm
  have hb' : Buf w1.drew b 0 true [] := hb
  have hf0 : Fr noF (BF w1 b) w w1.drew := (((Fr.refl noF w).alloc _).alloc _).trans hf.drew
  have n1 := hf.block (new2 w _ _).1 fun x => x
  have n2 := hf.block (new2 w _ _).2 fun x => x
  refine (ProtB_raw m b 0 true [] ⟨pr, pl, sr, sw, ms, co, fr⟩ w1.drew hc hm' hb').mono ?_
  rintro e w2 ⟨p, cf, rfl, hcf, hP, hF, hp⟩
  have k1 := hF.block (w := w1.drew) n1 (hb'.other n1 (by decide) (by decide))
  have k2 := hF.block (w := w1.drew) n2 (hb'.other n2 (by decide) (by decide))
  refine ⟨p, rfl, boxes k1 k2, (hput p m b cf w2 (hf0.trans hF) hcf hP).mono ?_⟩
  intro e w3 hw
  have j1 := hw.2.2.block k1 (fun hk => hk.elim (fun e => by obtain ⟨bf, _, ha⟩ := hP.arr; exact tag_ne k1 ha (by decide) e) (hP.buf.other k1 (by decide) (by decide)))
  have j2 := hw.2.2.block k2 (fun hk => hk.elim (fun e => by obtain ⟨bf, _, ha⟩ := hP.arr; exact tag_ne k2 ha (by decide) e) (hP.buf.other k2 (by decide) (by decide)))
  refine ⟨hw.1, boxes j1 j2, ?_⟩
  have hq := hw.2.1
  rw [Nat.zero_add, List.nil_append] at hq
  exact ⟨hq.mem.cell, hq.buf, ((hf0.trans hF).trans hw.2.2).conv fun k _ hk => Or.inr hk⟩

theorem I_Put_B (pr : Int) (pl sr sw : Bool) (ms co fr : Int) (hc : pr ≠ 1) (v0 v1 v2 v3 v4 v5 v6 : Value) (news : List UInt8) (w : World)
    (hput : ∀ p m b cf w1, Fr noF (BPF w1 p b) w w1 → Cfg w1 cf ⟨pr, pl, sr, sw, ms, co, fr⟩ → BP w1 p m b cf 0 true [] → Calls Tryz.prog 59 #[binI p, .agg #[v0, v1, v2, v3, v4, v5, v6]] w1 (BW w1 p m b cf 0 [] news)) :
    Calls Tryz.prog 37 #[.agg #[.int .i64 pr, .bool pl, .bool sr, .bool sw, .int .i32 ms, .int .i32 co, .int .i32 fr], .agg #[v0, v1, v2, v3, v4, v5, v6]] w (PutR w news) := by
  have h1 := NewTMemoryBuffer_raw ((w.alloc (.cells #[.int .i64 pr, .bool pl, .bool sr, .bool sw, .int .i32 ms, .int .i32 co, .int .i32 fr] 23 (0, 0))).alloc (.cells #[v0, v1, v2, v3, v4, v5, v6] 55 (0, 0)))
  have h2 := put_prep_B pr pl sr sw ms co fr hc v0 v1 v2 v3 v4 v5 v6 news w hput
  have H1 := Lib.hid h1
  have H2 := Lib.hid h2
  clear h1 h2 hput hc
  go_enter Tryz.func37, Tryz.ntmps37
  go_wp2_with fail
  refine H1.out.mono ?_
  rintro e w1 ⟨m, b, rfl, hm, hb, hf, hmn⟩
  have c0 : Boxes w1 w.heap.size pr pl sr sw ms co fr v0 v1 v2 v3 v4 v5 v6 := boxes (hf.block (new2 w _ _).1 fun x => x) (hf.block (new2 w _ _).2 fun x => x)
  have HP := Lib.hid (H2.out m b w1 hm hb hf)
  clear hm hb hf hmn
  go_wp2_with fail
  go_region_held3 (fun w' => w'.cell? ⟨w.heap.size, 0, none⟩ = some (.int .i64 pr) ∧ w'.cell? ⟨w.heap.size, 1, none⟩ = some (.bool pl) ∧ w'.cell? ⟨w.heap.size, 2, none⟩ = some (.bool sr) ∧ w'.cell? ⟨w.heap.size, 3, none⟩ = some (.bool sw) ∧ w'.cell? ⟨w.heap.size, 4, none⟩ = some (.int .i32 ms) ∧ w'.cell? ⟨w.heap.size, 5, none⟩ = some (.int .i32 co) ∧ w'.cell? ⟨w.heap.size, 6, none⟩ = some (.int .i32 fr) ∧ w'.cell? ⟨w.heap.size + 1, 0, none⟩ = some v0 ∧ w'.cell? ⟨w.heap.size + 1, 1, none⟩ = some v1 ∧ w'.cell? ⟨w.heap.size + 1, 2, none⟩ = some v2 ∧ w'.cell? ⟨w.heap.size + 1, 3, none⟩ = some v3 ∧ w'.cell? ⟨w.heap.size + 1, 4, none⟩ = some v4 ∧ w'.cell? ⟨w.heap.size + 1, 5, none⟩ = some v5 ∧ w'.cell? ⟨w.heap.size + 1, 6, none⟩ = some v6) (first | exact c0 | exact d0 | exact e0)
    (first | (go_at_call 60; refine HP.out.mono ?_; rintro e w2 ⟨p, rfl, d0, hcall⟩; have HC := Lib.hid hcall; clear hcall) | (go_at_call 59; refine HC.out.mono ?_; rintro e w3 ⟨rfl, e0, hend⟩; have HE := Lib.hid hend; clear hend))
  all_goals (have m0 := HE.out.1; clear e0 d0 c0)
  all_goals go_wp2_with fail
  all_goals (refine (Buf_Bytes b _ true news w3 HE.out.2.1).mono ?_; rintro e w4 ⟨v, q, rfl, rfl, hR, hblk⟩; have HR := Lib.hid (put_end HE.out q hR hblk); clear hR hblk)
  all_goals go_wp2_with (go_at_call 58; refine (kind_nil _).mono ?_; rintro e w' ⟨rfl, rfl⟩)
  all_goals go_ret2
  all_goals exact HR.out


theorem put_prep_C (pr : Int) (pl sr sw : Bool) (ms co fr : Int) (hc : pr = 1) (v0 v1 v2 v3 v4 v5 v6 : Value) (news : List UInt8) (w : World)
    (hput : ∀ p m b cf w1, Fr noF (CPF w1 p b) w w1 → Cfg w1 cf ⟨pr, pl, sr, sw, ms, co, fr⟩ → CP w1 p m b cf CSt.new 0 true [] → Calls Tryz.prog 59 #[comI p, .agg #[v0, v1, v2, v3, v4, v5, v6]] w1 (CW w1 p m b cf CSt.new CSt.new 0 [] news .nilIface))
    (m b : Nat) (w1 : World) (hm : Mem w1 m b) (hb : Buf w1 b 0 true []) (hf : Fr noF (BF w1 b) ((w.alloc (.cells #[.int .i64 pr, .bool pl, .bool sr, .bool sw, .int .i32 ms, .int .i32 co, .int .i32 fr] 23 (0, 0))).alloc (.cells #[v0, v1, v2, v3, v4, v5, v6] 55 (0, 0))) w1) :
    Calls Tryz.prog 60 #[.agg #[.int .i64 pr, .bool pl, .bool sr, .bool sw, .int .i32 ms, .int .i32 co, .int .i32 fr], memI m] w1.drew (fun e w2 => ∃ p, e = .returned (comI p) ∧ Boxes w2 w.heap.size pr pl sr sw ms co fr v0 v1 v2 v3 v4 v5 v6 ∧
      Calls Tryz.prog 59 #[comI p, .agg #[v0, v1, v2, v3, v4, v5, v6]] w2 (fun e w3 => e = .returned .nilIface ∧ Boxes w3 w.heap.size pr pl sr sw ms co fr v0 v1 v2 v3 v4 v5 v6 ∧ PutEnd w w3 m b news)) := by
  have hm' : Mem w1.drew m b := hm
  have hb' : Buf w1.drew b 0 true [] := hb
  have hf0 : Fr noF (BF w1 b) w w1.drew := (((Fr.refl noF w).alloc _).alloc _).trans hf.drew
  have n1 := hf.block (new2 w _ _).1 fun x => x
  have n2 := hf.block (new2 w _ _).2 fun x => x
  refine (ProtC_raw m b 0 true [] ⟨pr, pl, sr, sw, ms, co, fr⟩ w1.drew hc hm' hb').mono ?_
  rintro e w2 ⟨p, cf, rfl, hcf, hP, hF, hp⟩
  have k1 := hF.block (w := w1.drew) n1 (hb'.other n1 (by decide) (by decide))
  have k2 := hF.block (w := w1.drew) n2 (hb'.other n2 (by decide) (by decide))
  refine ⟨p, rfl, boxes k1 k2, (hput p m b cf w2 (hf0.trans hF) hcf hP).mono ?_⟩
  intro e w3 hw
  have j1 := hw.2.2.block k1 (fun hk => by obtain ⟨cs', t, h2, ht⟩ := CPF.tag hP hk; rw [k1] at h2; injection h2 with h2; injection h2 with _ h2 _; subst h2; revert ht; decide)
  have j2 := hw.2.2.block k2 (fun hk => by obtain ⟨cs', t, h2, ht⟩ := CPF.tag hP hk; rw [k2] at h2; injection h2 with h2; injection h2 with _ h2 _; subst h2; revert ht; decide)
  refine ⟨hw.1, boxes j1 j2, ?_⟩
  have hq := hw.2.1
  rw [Nat.zero_add, List.nil_append] at hq
  exact ⟨hq.mem.cell, hq.buf, ((hf0.trans hF).trans hw.2.2).conv fun k _ hk => Or.inr (Or.inl hk)⟩

theorem I_Put_C (pr : Int) (pl sr sw : Bool) (ms co fr : Int) (hc : pr = 1) (v0 v1 v2 v3 v4 v5 v6 : Value) (news : List UInt8) (w : World)
    (hput : ∀ p m b cf w1, Fr noF (CPF w1 p b) w w1 → Cfg w1 cf ⟨pr, pl, sr, sw, ms, co, fr⟩ → CP w1 p m b cf CSt.new 0 true [] → Calls Tryz.prog 59 #[comI p, .agg #[v0, v1, v2, v3, v4, v5, v6]] w1 (CW w1 p m b cf CSt.new CSt.new 0 [] news .nilIface)) :
    Calls Tryz.prog 37 #[.agg #[.int .i64 pr, .bool pl, .bool sr, .bool sw, .int .i32 ms, .int .i32 co, .int .i32 fr], .agg #[v0, v1, v2, v3, v4, v5, v6]] w (PutR w news) := by
  have h1 := NewTMemoryBuffer_raw ((w.alloc (.cells #[.int .i64 pr, .bool pl, .bool sr, .bool sw, .int .i32 ms, .int .i32 co, .int .i32 fr] 23 (0, 0))).alloc (.cells #[v0, v1, v2, v3, v4, v5, v6] 55 (0, 0)))
  have h2 := put_prep_C pr pl sr sw ms co fr hc v0 v1 v2 v3 v4 v5 v6 news w hput
  have H1 := Lib.hid h1
  have H2 := Lib.hid h2
  clear h1 h2 hput hc
  go_enter Tryz.func37, Tryz.ntmps37
  go_wp2_with fail
  refine H1.out.mono ?_
  rintro e w1 ⟨m, b, rfl, hm, hb, hf, hmn⟩
  have c0 : Boxes w1 w.heap.size pr pl sr sw ms co fr v0 v1 v2 v3 v4 v5 v6 := boxes (hf.block (new2 w _ _).1 fun x => x) (hf.block (new2 w _ _).2 fun x => x)
  have HP := Lib.hid (H2.out m b w1 hm hb hf)
  clear hm hb hf hmn
  go_wp2_with fail
  go_region_held3 (fun w' => w'.cell? ⟨w.heap.size, 0, none⟩ = some (.int .i64 pr) ∧ w'.cell? ⟨w.heap.size, 1, none⟩ = some (.bool pl) ∧ w'.cell? ⟨w.heap.size, 2, none⟩ = some (.bool sr) ∧ w'.cell? ⟨w.heap.size, 3, none⟩ = some (.bool sw) ∧ w'.cell? ⟨w.heap.size, 4, none⟩ = some (.int .i32 ms) ∧ w'.cell? ⟨w.heap.size, 5, none⟩ = some (.int .i32 co) ∧ w'.cell? ⟨w.heap.size, 6, none⟩ = some (.int .i32 fr) ∧ w'.cell? ⟨w.heap.size + 1, 0, none⟩ = some v0 ∧ w'.cell? ⟨w.heap.size + 1, 1, none⟩ = some v1 ∧ w'.cell? ⟨w.heap.size + 1, 2, none⟩ = some v2 ∧ w'.cell? ⟨w.heap.size + 1, 3, none⟩ = some v3 ∧ w'.cell? ⟨w.heap.size + 1, 4, none⟩ = some v4 ∧ w'.cell? ⟨w.heap.size + 1, 5, none⟩ = some v5 ∧ w'.cell? ⟨w.heap.size + 1, 6, none⟩ = some v6) (first | exact c0 | exact d0 | exact e0)
    (first | (go_at_call 60; refine HP.out.mono ?_; rintro e w2 ⟨p, rfl, d0, hcall⟩; have HC := Lib.hid hcall; clear hcall) | (go_at_call 59; refine HC.out.mono ?_; rintro e w3 ⟨rfl, e0, hend⟩; have HE := Lib.hid hend; clear hend))
  all_goals (have m0 := HE.out.1; clear e0 d0 c0)
  all_goals go_wp2_with fail
  all_goals (refine (Buf_Bytes b _ true news w3 HE.out.2.1).mono ?_; rintro e w4 ⟨v, q, rfl, rfl, hR, hblk⟩; have HR := Lib.hid (put_end HE.out q hR hblk); clear hR hblk)
  all_goals go_wp2_with (go_at_call 58; refine (kind_nil _).mono ?_; rintro e w' ⟨rfl, rfl⟩)
  all_goals go_ret2
  all_goals exact HR.out
end Go.Proofs.YtdedkoahfailcaaGreatDoor
