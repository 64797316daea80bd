/- The thin package: bytes handed to a buffer, a number got. -/
import Derived.Test.YtdedkoahfailcaaGreatDoorGet
namespace Go.Proofs.YtdedkoahfailcaaGreatDoor
open Go Go.RowKit
set_option maxHeartbeats 1000000
set_option maxRecDepth 100000

def HoldP (w : World) (l : List UInt8) (e : Ending) (w' : World) : Prop := ∃ m b, e = .returned (.pointer (some ⟨m, 0, none⟩)) ∧ Mem w' m b ∧ Buf w' b l.length true l ∧ Fr noF (BF w' b) w w' ∧ w.heap.size ≤ m

theorem I_holding (v : Value) (l : List UInt8) (w : World) (hv : Rd w v l) (hb : ∀ k, vblk v k → k < w.heap.size) (hl : l.length ≤ LIM) : Calls Tryz.prog 61 #[v] w (HoldP w l) := by
  have h1 : ∀ w1 m b, Mem w1 m b → Buf w1 b 0 true [] → Fr noF (BF w1 b) w w1 → w.heap.size ≤ m → Calls Tryz.prog 78 #[.pointer (some ⟨b, 0, none⟩), v] w1 (fun e w2 => e = .returned (.tuple #[.int .i64 (l.length : Nat), .nilIface]) ∧ HoldP w l (.returned (.pointer (some ⟨m, 0, none⟩))) w2) := by
    intro w1 m b hm hB hF hmn
    have hv1 : Rd w1 v l := hv.keep hF fun _ _ x => x
    refine (Buf_Write b 0 [] l v w1 hB (by omega) hv1 (fun k hk hx => hF.foot k (hb k hk) hx)).mono ?_
    rintro e w2 ⟨rfl, hB2, hF2⟩
    obtain ⟨sz, hm⟩ := hm
    rw [Nat.zero_add, List.nil_append] at hB2
    exact ⟨rfl, m, b, rfl, ⟨sz, hF2.block hm (hB.other hm (by decide) (by decide))⟩, hB2, hF.trans hF2, hmn⟩
  have H1 := Lib.hid h1
  have HN := Lib.hid NewTMemoryBuffer_raw
  clear h1 hv hb hl
  go_enter Tryz.func61, Tryz.ntmps61
  go_wp2_with fail
  refine (HN.out w).mono ?_
  rintro e w1 ⟨m, b, rfl, hm, hB, hF, hmn⟩
  have c0 := hm.cell
  have HX := Lib.hid (H1.out w1 m b hm hB hF hmn)
  clear hm hB hF hmn
  go_wp2_with fail
  refine HX.out.mono ?_
  rintro e w2 ⟨rfl, hx⟩
  have HY := Lib.hid hx
  clear hx
  go_wp2
  go_ret
  exact HY.out

/-- What is got: a value, how it ended, how many bytes are left. -/
def GetR (w : World) (v : Value) (kind left : Int) (e : Ending) (w' : World) : Prop := e = .returned (.tuple #[v, .int .i64 kind, .int .i64 left]) ∧ Fr noF noF w w'

/-- What stands when a number is got. -/
structure GotS (w w3 : World) (m b T : Nat) (l : List UInt8) : Prop where
  box : w3.heap[w.heap.size + 1]? = some (.cells #[.int .i64 0, .int .i64 0, .slice none 0 0, .int .i64 0, .int .i64 0, .slice none 0 0, .slice none 0 0] 55 (0, 0))
  mem : w3.cell? ⟨m, 0, none⟩ = some (.pointer (some ⟨b, 0, none⟩))
  buf : Buf w3 b T false l
  fr : Fr noF (BF w3 b) w w3
  mlt : m < w3.heap.size
  mne : m ≠ w.heap.size + 1
  nlt : w.heap.size + 1 < w3.heap.size

/-- What the end of Get reads: the value's box K, the memory buffer's pointer. -/
def EndS (w' : World) (K m b : Nat) (N : Int) : Prop := w'.cell? ⟨K, 0, none⟩ = some (.int .i64 8) ∧ w'.cell? ⟨K, 1, none⟩ = some (.int .i64 N) ∧ w'.cell? ⟨K, 2, none⟩ = some (.slice none 0 0) ∧ w'.cell? ⟨K, 3, none⟩ = some (.int .i64 0) ∧ w'.cell? ⟨K, 4, none⟩ = some (.int .i64 0) ∧ w'.cell? ⟨K, 5, none⟩ = some (.slice none 0 0) ∧ w'.cell? ⟨K, 6, none⟩ = some (.slice none 0 0) ∧ w'.cell? ⟨m, 0, none⟩ = some (.pointer (some ⟨b, 0, none⟩))
theorem EndS.drewN {W : World} {K m b : Nat} {N : Int} (h : EndS W K m b N) (q : Nat) : EndS (W.drewN q) K m b N := h
structure GotT (w W : World) (K m b T : Nat) (l : List UInt8) (N : Int) : Prop where
  box : W.heap[w.heap.size + 1]? = some (.cells #[.int .i64 0, .int .i64 0, .slice none 0 0, .int .i64 0, .int .i64 0, .slice none 0 0, .slice none 0 0] 55 (0, 0))
  s0 : EndS W K m b N
  s1 : ∀ X, Fr noF noF W X → EndS (store7 X (w.heap.size + 1) (.int .i64 8) (.int .i64 N) (.slice none 0 0) (.int .i64 0) (.int .i64 0) (.slice none 0 0) (.slice none 0 0)) K m b N
  b0 : Buf W b T false l
  b1 : ∀ X, Fr noF noF W X → Buf (store7 X (w.heap.size + 1) (.int .i64 8) (.int .i64 N) (.slice none 0 0) (.int .i64 0) (.int .i64 0) (.slice none 0 0) (.slice none 0 0)) b T false l
  fin : ∀ X, Fr noF noF W X → Cells7 (store7 X (w.heap.size + 1) (.int .i64 8) (.int .i64 N) (.slice none 0 0) (.int .i64 0) (.int .i64 0) (.slice none 0 0) (.slice none 0 0)) (w.heap.size + 1) (.int .i64 8) (.int .i64 N) (.slice none 0 0) (.int .i64 0) (.int .i64 0) (.slice none 0 0) (.slice none 0 0) ∧ Fr noF noF w (store7 X (w.heap.size + 1) (.int .i64 8) (.int .i64 N) (.slice none 0 0) (.int .i64 0) (.int .i64 0) (.slice none 0 0) (.slice none 0 0))

theorem endS {w' : World} {K m b : Nat} {N : Int} (h1 : w'.heap[K]? = some (.cells #[.int .i64 8, .int .i64 N, .slice none 0 0, .int .i64 0, .int .i64 0, .slice none 0 0, .slice none 0 0] 55 (0, 0))) (h2 : w'.cell? ⟨m, 0, none⟩ = some (.pointer (some ⟨b, 0, none⟩))) : EndS w' K m b N := by
  obtain ⟨⟨c0, c1, c2, c3, c4, c5, c6⟩, _⟩ := cells7 h1
  exact ⟨c0, c1, c2, c3, c4, c5, c6, h2⟩
/-- The seven cells of a box are written: what stands. -/
theorem store7_keep (w W : World) (n : Nat) (hn : n = w.heap.size + 1) (v0 v1 v2 v3 v4 v5 v6 : Value) (hfr : Fr noF noF w W) : ∃ X, X = store7 W n v0 v1 v2 v3 v4 v5 v6 ∧ Fr (fun k => k = n) (fun k => k = n) W X ∧ Fr noF noF w X :=
  ⟨_, rfl, store7_fr (Fr.refl (fun k => k = n) W) (Or.inl rfl) v0 v1 v2 v3 v4 v5 v6, store7_fr hfr (Or.inr (by omega)) v0 v1 v2 v3 v4 v5 v6⟩
theorem gotT {w W : World} {K m b T : Nat} {l : List UInt8} {N : Int} (hbox : W.heap[w.heap.size + 1]? = some (.cells #[.int .i64 0, .int .i64 0, .slice none 0 0, .int .i64 0, .int .i64 0, .slice none 0 0, .slice none 0 0] 55 (0, 0))) (hnew : W.heap[K]? = some (.cells #[.int .i64 8, .int .i64 N, .slice none 0 0, .int .i64 0, .int .i64 0, .slice none 0 0, .slice none 0 0] 55 (0, 0)))
    (hmem : W.cell? ⟨m, 0, none⟩ = some (.pointer (some ⟨b, 0, none⟩))) (hb : Buf W b T false l) (hfr : Fr noF noF w W) (hne : m ≠ w.heap.size + 1) (hK : K ≠ w.heap.size + 1) : GotT w W K m b T l N := by
  have hnb : ∀ k, BF W b k → ¬ k = w.heap.size + 1 := fun k hk he => hb.other hbox (by decide) (by decide) (he ▸ hk)
  refine ⟨hbox, endS hnew hmem, fun Y hY => ?_, hb, fun Y hY => ?_, fun Y hY => ?_⟩
  · obtain ⟨X, hX, h1, h2⟩ := store7_keep w Y _ rfl (.int .i64 8) (.int .i64 N) (.slice none 0 0) (.int .i64 0) (.int .i64 0) (.slice none 0 0) (.slice none 0 0) (hfr.trans hY)
    rw [← hX]
    exact endS (h1.block (hY.block hnew fun x => x) hK) (h1.cell (hY.cell hmem fun x => x) hne)
  · obtain ⟨X, hX, h1, h2⟩ := store7_keep w Y _ rfl (.int .i64 8) (.int .i64 N) (.slice none 0 0) (.int .i64 0) (.int .i64 0) (.slice none 0 0) (.slice none 0 0) (hfr.trans hY)
    rw [← hX]
    exact (hb.keep hY fun _ _ x => x).keep h1 fun k hk he => hnb k ((BF.of_same (hY.keep b hb.lt fun x => x)).1 hk) he
  · have h3 := (cells7 (store7_at (w := Y) (hY.block hbox fun x => x) (.int .i64 8) (.int .i64 N) (.slice none 0 0) (.int .i64 0) (.int .i64 0) (.slice none 0 0) (.slice none 0 0))).1
    obtain ⟨X, hX, h1, h2⟩ := store7_keep w Y _ rfl (.int .i64 8) (.int .i64 N) (.slice none 0 0) (.int .i64 0) (.int .i64 0) (.slice none 0 0) (.slice none 0 0) (hfr.trans hY)
    rw [← hX] at h3 ⊢
    exact ⟨h3, h2⟩
theorem GotS.next {w w3 : World} {m b T : Nat} {l : List UInt8} (h : GotS w w3 m b T l) (N : Int) :
    GotT w (w3.alloc (.cells #[.int .i64 8, .int .i64 N, .slice none 0 0, .int .i64 0, .int .i64 0, .slice none 0 0, .slice none 0 0] 55 (0, 0))) w3.heap.size m b T l N :=
  have hf : Fr noF noF w3 (w3.alloc (.cells #[.int .i64 8, .int .i64 N, .slice none 0 0, .int .i64 0, .int .i64 0, .slice none 0 0, .slice none 0 0] 55 (0, 0))) := (Fr.refl noF w3).alloc _
  gotT (alloc_at h.box) (alloc_new w3 _) (hf.cell h.mem fun x => x) (h.buf.keep hf fun _ _ x => x) ((h.fr.conv fun _ _ x => x.elim).trans hf) h.mne (by have := h.nlt; omega)

theorem res_Get (w : World) (tmps : Array Value) (k : Nat) (v0 v1 v2 v3 v4 v5 v6 a c : Value) (h8 : tmps.getD 8 undef = .pointer (some ⟨k, 0, none⟩)) (h9 : tmps.getD 9 undef = a) (h10 : tmps.getD 10 undef = c) (hc : Cells7 w k v0 v1 v2 v3 v4 v5 v6) :
    (results Tryz.f38 tmps).run Tryz.prog w = .ok (.tuple #[.agg #[v0, v1, v2, v3, v4, v5, v6], a, c]) w := by
  obtain ⟨c0, c1, c2, c3, c4, c5, c6⟩ := hc
  have h8' : tmps[8]?.getD undef = .pointer (some ⟨k, 0, none⟩) := by simpa using h8
  have h9' : tmps[9]?.getD undef = a := by simpa using h9
  have h10' : tmps[10]?.getD undef = c := by simpa using h10
  clear h8 h9 h10
  simp [results, Tryz.results38, go_sem, *]
  done

theorem I_Get_I32_B (pr : Int) (pl sr sw : Bool) (ms co fr : Int) (hc : pr ≠ 1) (v : Value) (l : List UInt8) (w : World) (hv : Rd w v l) (hb : ∀ k, vblk v k → k < w.heap.size) (hl : l.length ≤ LIM) (h4 : 4 ≤ l.length) :
    Calls Tryz.prog 38 #[.agg #[.int .i64 pr, .bool pl, .bool sr, .bool sw, .int .i32 ms, .int .i32 co, .int .i32 fr], .int .i64 8, v, .int .i64 1] w (GetR w (valN 8 (wrap32 (Lib.beNat (l.take 4)))) 0 ((l.drop 4).length : Nat)) := by
  have hv2 : Rd ((w.alloc (.cells #[.int .i64 pr, .bool pl, .bool sr, .bool sw, .int .i32 ms, .int .i32 co, .int .i32 fr] 23 (0, 0))).alloc (.cells #[.int .i64 0, .int .i64 0, .slice none 0 0, .int .i64 0, .int .i64 0, .slice none 0 0, .slice none 0 0] 55 (0, 0))) v l :=
    hv.keep (F := noF) (((Fr.refl noF w).alloc _).alloc _) fun _ _ x => x
  have h1 := I_holding v l _ hv2 (fun k hk => by have := hb k hk; simp; omega) hl
  have h2 : ∀ w1 m b, Mem w1 m b → Buf w1 b l.length true l → Fr noF (BF w1 b) ((w.alloc (.cells #[.int .i64 pr, .bool pl, .bool sr, .bool sw, .int .i32 ms, .int .i32 co, .int .i32 fr] 23 (0, 0))).alloc (.cells #[.int .i64 0, .int .i64 0, .slice none 0 0, .int .i64 0, .int .i64 0, .slice none 0 0, .slice none 0 0] 55 (0, 0))) w1 →
      (Calls Tryz.prog 60 #[.agg #[.int .i64 pr, .bool pl, .bool sr, .bool sw, .int .i32 ms, .int .i32 co, .int .i32 fr], memI m] w1 (fun e w2 => ∃ p, e = .returned (binI p) ∧
        Calls Tryz.prog 62 #[binI p, .int .u8 8, .int .i64 1] w2 (fun e w3 => e = .returned (.tuple #[valN 8 (wrap32 (Lib.beNat (l.take 4))), .nilIface]) ∧ GotS w w3 m b l.length (l.drop 4)))) := by
    intro w1 m b hm hB hF
    have hf0 : Fr noF (BF w1 b) w w1 := (((Fr.refl noF w).alloc _).alloc _).trans hF
    have n2 := hF.block (new2 w _ _).2 fun x => x
    refine (ProtB_raw m b l.length true l ⟨pr, pl, sr, sw, ms, co, fr⟩ w1 hc hm hB).mono ?_
    rintro e w2 ⟨p, cf, rfl, hcf, hP, hF2, hp⟩
    have k2 := hF2.block n2 (hB.other n2 (by decide) (by decide))
    refine ⟨p, rfl, (get_I32_B p m b l.length cf true l w2 hP h4).mono ?_⟩
    rintro e w3 ⟨rfl, hP3, hF3⟩
    have k3 := hF3.block k2 (hP.notin k2 (by decide) (by decide) (by decide))
    obtain ⟨sz, hM⟩ := hP3.mem
    exact ⟨rfl, k3, hP3.mem.cell, hP3.buf, ((hf0.trans hF2).trans hF3).conv fun k _ hk => Or.inr hk, lt_heap hM, tag_ne hM k3 (by decide), lt_heap k3⟩
  have HT := Lib.hid (I_typ 8)
  have H1 := Lib.hid h1
  have H2 := Lib.hid h2
  clear h1 h2 hv hv2 hb hl h4 hc
  go_enter Tryz.func38, Tryz.ntmps38
  go_wp2_with fail
  refine H1.out.mono ?_
  rintro e w1 ⟨m, b, rfl, hm, hB, hF, hmn⟩
  have n1 := hF.block (new2 w _ _).1 fun x => x
  obtain ⟨⟨c0, c1, c2, c3, c4, c5, c6⟩, fc⟩ := cells7 n1
  have HX := Lib.hid (H2.out w1 m b hm hB hF)
  clear hm hB hF hmn n1
  go_wp2_with fail
  refine HX.out.mono ?_
  rintro e w2 ⟨p, rfl, hx⟩
  have HY := Lib.hid hx
  clear hx c0 c1 c2 c3 c4 c5 c6 fc HX
  go_wp2_with (go_at_call 42; refine (HT.out _).mono ?_; rintro e w' ⟨rfl, rfl⟩)
  refine HY.out.mono ?_
  rintro e w3 ⟨rfl, hS⟩
  obtain ⟨⟨c0, c1, c2, c3, c4, c5, c6⟩, fc⟩ := cells7 hS.box
  have s0 := hS.mem
  have hne := hS.mne
  have hlt := hS.mlt
  have hnlt := hS.nlt
  have HS := Lib.hid hS
  clear hS HY
  go_wp2_with fail
  obtain ⟨N, hN⟩ : ∃ N, N = wrap32 (Lib.beNat (l.take 4)) := ⟨_, rfl⟩
  rw [← hN]
  have hT := HS.out.next N
  obtain ⟨K, hK⟩ : ∃ K, K = w3.heap.size := ⟨_, rfl⟩
  obtain ⟨W, hW⟩ : ∃ W, W = w3.alloc (.cells #[.int .i64 8, .int .i64 N, .slice none 0 0, .int .i64 0, .int .i64 0, .slice none 0 0, .slice none 0 0] 55 (0, 0)) := ⟨_, rfl⟩
  rw [← hW] at hT ⊢
  rw [← hK] at hT ⊢
  have HN := Lib.hid hN
  clear hW hK hN HS c0 c1 c2 c3 c4 c5 c6 fc s0 hne hlt hnlt
  obtain ⟨⟨c0, c1, c2, c3, c4, c5, c6⟩, fc⟩ := cells7 hT.box
  have s0 := hT.s0
  have fd : Fr noF noF W W.drew := (Fr.refl noF W).drew
  have fn : ∀ q, Fr noF noF W (W.drewN q) := fun q => (Fr.refl noF W).drewN q
  have s1 : EndS W.drew K m b N := s0
  have s2 : ∀ q, EndS (W.drewN q) K m b N := fun _ => s0
  have s4 : ∀ q, EndS (store7 (W.drewN q) (w.heap.size + 1) (.int .i64 8) (.int .i64 N) (.slice none 0 0) (.int .i64 0) (.int .i64 0) (.slice none 0 0) (.slice none 0 0)) K m b N := fun q => hT.s1 _ (fn q)
  have s5 : EndS (store7 W.drew (w.heap.size + 1) (.int .i64 8) (.int .i64 N) (.slice none 0 0) (.int .i64 0) (.int .i64 0) (.slice none 0 0) (.slice none 0 0)) K m b N := hT.s1 _ fd
  have s6 : ∀ q, EndS ((store7 W.drew (w.heap.size + 1) (.int .i64 8) (.int .i64 N) (.slice none 0 0) (.int .i64 0) (.int .i64 0) (.slice none 0 0) (.slice none 0 0)).drewN q) K m b N := fun q => (hT.s1 _ fd).drewN q
  have h0 := hT.b0
  have h1 := hT.b1
  have hl0 : Calls Tryz.prog 63 #[.pointer (some ⟨b, 0, none⟩)] W.drew fun e w' => e = .returned (.int .i64 ((l.drop 4).length : Int)) ∧ ∃ q', W.drew.drewN q' = w' := Buf_Len b _ false (l.drop 4) _ h0
  have HL0 := Lib.hid hl0
  clear hl0
  have hl1 : ∀ q, Calls Tryz.prog 63 #[.pointer (some ⟨b, 0, none⟩)] (W.drewN q) fun e w' => e = .returned (.int .i64 ((l.drop 4).length : Int)) ∧ ∃ q', (W.drewN q).drewN q' = w' := fun q => Buf_Len b _ false (l.drop 4) _ h0
  have HL1 := Lib.hid hl1
  clear hl1
  have hl2 : Calls Tryz.prog 63 #[.pointer (some ⟨b, 0, none⟩)] (store7 W.drew (w.heap.size + 1) (.int .i64 8) (.int .i64 N) (.slice none 0 0) (.int .i64 0) (.int .i64 0) (.slice none 0 0) (.slice none 0 0)) fun e w' => e = .returned (.int .i64 ((l.drop 4).length : Int)) ∧ ∃ q', (store7 W.drew (w.heap.size + 1) (.int .i64 8) (.int .i64 N) (.slice none 0 0) (.int .i64 0) (.int .i64 0) (.slice none 0 0) (.slice none 0 0)).drewN q' = w' := Buf_Len b _ false (l.drop 4) _ (h1 _ fd)
  have HL2 := Lib.hid hl2
  clear hl2
  have hl3 : ∀ q, Calls Tryz.prog 63 #[.pointer (some ⟨b, 0, none⟩)] (store7 (W.drewN q) (w.heap.size + 1) (.int .i64 8) (.int .i64 N) (.slice none 0 0) (.int .i64 0) (.int .i64 0) (.slice none 0 0) (.slice none 0 0)) fun e w' => e = .returned (.int .i64 ((l.drop 4).length : Int)) ∧ ∃ q', (store7 (W.drewN q) (w.heap.size + 1) (.int .i64 8) (.int .i64 N) (.slice none 0 0) (.int .i64 0) (.int .i64 0) (.slice none 0 0) (.slice none 0 0)).drewN q' = w' := fun q => Buf_Len b _ false (l.drop 4) _ (h1 _ (fn q))
  have HL3 := Lib.hid hl3
  clear hl3
  have HF := Lib.hid hT.fin
  clear hT h0 h1
  go_region_held3 (fun w' => w'.cell? ⟨K, 0, none⟩ = some (.int .i64 8) ∧ w'.cell? ⟨K, 1, none⟩ = some (.int .i64 N) ∧ w'.cell? ⟨K, 2, none⟩ = some (.slice none 0 0) ∧ w'.cell? ⟨K, 3, none⟩ = some (.int .i64 0) ∧ w'.cell? ⟨K, 4, none⟩ = some (.int .i64 0) ∧ w'.cell? ⟨K, 5, none⟩ = some (.slice none 0 0) ∧ w'.cell? ⟨K, 6, none⟩ = some (.slice none 0 0) ∧ w'.cell? ⟨m, 0, none⟩ = some (.pointer (some ⟨b, 0, none⟩))) ((show EndS _ K m b N; first | with_reducible exact s0 | with_reducible exact s1 | with_reducible exact s2 _ | with_reducible exact s4 _ | with_reducible exact s5 | with_reducible exact s6 _))
    (first | (go_at_call 58; refine (kind_nil _).mono ?_; rintro e w' ⟨rfl, rfl⟩) | (go_at_call 63; with_reducible refine (HL0.out).mono ?_; rintro e w' ⟨rfl, q, rfl⟩) | (go_at_call 63; with_reducible refine (HL1.out _).mono ?_; rintro e w' ⟨rfl, q, rfl⟩) | (go_at_call 63; with_reducible refine (HL2.out).mono ?_; rintro e w' ⟨rfl, q, rfl⟩) | (go_at_call 63; with_reducible refine (HL3.out _).mono ?_; rintro e w' ⟨rfl, q, rfl⟩))
  all_goals go_wp2
  all_goals refine bodyPost_ret (res_Get _ _ _ _ _ _ _ _ _ _ _ _ rfl rfl rfl (HF.out _ (fn _)).1) rfl ⟨?_, (HF.out _ (fn _)).2⟩
  all_goals (have he : (l.drop 4).length = l.length - 4 := by simp)
  all_goals (rw [he]; first | rfl | (rw [← HN.out]; rfl))
end Go.Proofs.YtdedkoahfailcaaGreatDoor
