/- bytes.Buffer: Write, WriteByte, WriteString onto a buffer of which nothing has been read. -/
import Derived.Test.YtdedkoahfailcaaGreatDoorGrow2
import Derived.Lib.BufferWrite
namespace Go.Proofs.YtdedkoahfailcaaGreatDoor
open Go Go.RowKit

/-- The size that a buffer may come to here. -/
def LIM : Nat := 17592186044416

/-- grow, of a buffer without room. -/
theorem Buf_grow (b T k : Nat) (l : List UInt8) (w : World) (h : Buf w b T true l) (hno : Lib.NoRoom b k w) (hlim : T + k ≤ LIM) :
    Calls Tryz.prog 87 #[.pointer (some ⟨b, 0, none⟩), .int .i64 k] w (Grown1 w b T l k) := by
  unfold LIM at hlim
  obtain ⟨ao, n', c', hc0, hroom⟩ := hno
  rcases h with ⟨rfl, lr, hb⟩ | ⟨lr, r, n, c, o, cur, hb, hr, hcs, hc, hon, hnc, hT, hl, hz⟩
  · rw [cell_at hb] at hc0
    simp at hc0
    obtain ⟨rfl, rfl, rfl⟩ := hc0
    by_cases h64 : k ≤ 64
    · exact grow_nil_small b T k lr w hb (by omega) h64
    · exact grow_nil_big b T k lr w hb (by omega) (by omega)
  · obtain rfl := hz rfl
    rw [cell_at hb] at hc0
    simp at hc0
    obtain ⟨rfl, rfl, rfl⟩ := hc0
    by_cases hn : n = 0
    · subst hn
      exact grow_row_none b T k r c l lr cur w hb hr hcs hnc hT hl hroom (by omega)
    · exact grow_row_some b T k r n c l lr cur w hb hr hcs hnc hT hl hroom (by omega) (by rw [beq_eq_false_iff_ne]; omega)

/-- The outcome of tryGrowByReslice. -/
def Tried (w : World) (b T : Nat) (l : List UInt8) (k : Nat) (e : Ending) (w' : World) : Prop :=
  (∃ i, e = .returned (.tuple #[.int .i64 ((i : Nat) : Int), .bool true]) ∧ Room w' b (T + k) true l i k ∧ Fr (BF w b) (BF w' b) w w') ∨
  (e = .returned (.tuple #[.int .i64 0, .bool false]) ∧ w' = w ∧ Lib.NoRoom b k w)

/-- tryGrowByReslice of a buffer that has a row, or at least one byte to write. -/
theorem Buf_try (b T k : Nat) (l : List UInt8) (w : World) (h : Buf w b T true l) (hk : 1 ≤ k) :
    Calls Tryz.prog 86 #[.pointer (some ⟨b, 0, none⟩), .int .i64 k] w (Tried w b T l k) := by
  rcases h with ⟨rfl, lr, hb⟩ | ⟨lr, r, n, c, o, cur, hb, hr, hcs, hc, hon, hnc, hT, hl, hz⟩
  · refine (tryGrow_no b none 0 0 k w (by rw [cell_at hb]; rfl) (Nat.le_refl _) (Nat.zero_le _) (by omega)).mono ?_
    rintro e w' ⟨he, rfl⟩
    exact Or.inr ⟨he, rfl, _, _, _, by rw [cell_at hb]; rfl, by omega⟩
  · obtain rfl := hz rfl
    by_cases hroom : k ≤ c - n
    · refine (tryGrow_yes b _ n c k w (by rw [cell_at hb]; rfl) (free_at hb 0) hnc hc hroom).mono ?_
      rintro e w' ⟨he, rfl⟩
      have hb' := setCell_at (i := 0) hb (.slice (some ⟨r, 0, none⟩) (n + k) c)
      have hrb : r ≠ b := tag_ne hr hb (by decide)
      refine Or.inl ⟨n, he, ⟨lr, r, c, 0, cur, hb', setCell_ne hr hrb _, hcs, hc, Nat.zero_le _, by omega, by omega, hl, fun _ => rfl⟩, ?_⟩
      refine ((Fr.refl (BF w b) w).setCell (p := ⟨b, 0, none⟩) (Or.inl (Or.inl rfl)) _).conv fun k' _ hf => ?_
      rcases BF_of hb' hf with rfl | rfl
      · exact Or.inl rfl
      · exact BF_row hb
    · refine (tryGrow_no b _ n c k w (by rw [cell_at hb]; rfl) hnc hc (by omega)).mono ?_
      rintro e w' ⟨he, rfl⟩
      exact Or.inr ⟨he, rfl, _, _, _, by rw [cell_at hb]; rfl, by omega⟩

/-- 'b.lastRead = opInvalid'. -/
theorem Buf.setLast {w : World} {b T : Nat} {z : Bool} {l : List UInt8} (h : Buf w b T z l) (x : Int) : Buf (w.setCell ⟨b, 2, none⟩ (.int .i8 x)) b T z l ∧ Fr (BF w b) (BF (w.setCell ⟨b, 2, none⟩ (.int .i8 x)) b) w (w.setCell ⟨b, 2, none⟩ (.int .i8 x)) := by
  have fr : Fr (BF w b) (BF w b) w (w.setCell ⟨b, 2, none⟩ (.int .i8 x)) := (Fr.refl (BF w b) w).setCell (p := ⟨b, 2, none⟩) (Or.inl (Or.inl rfl)) _
  rcases h with ⟨rfl, lr, hb⟩ | ⟨lr, r, n, c, o, cur, hb, hr, hcs, hc, hon, hnc, hT, hl, hz⟩
  · have hb' := setCell_at (i := 2) hb (.int .i8 x)
    exact ⟨Or.inl ⟨rfl, x, hb'⟩, fr.conv fun k _ hf => Or.inl (BF_nil hb' hf)⟩
  · have hb' := setCell_at (i := 2) hb (.int .i8 x)
    have hrb : r ≠ b := tag_ne hr hb (by decide)
    refine ⟨Or.inr ⟨x, r, n, c, o, cur, hb', setCell_ne hr hrb _, hcs, hc, hon, hnc, hT, hl, hz⟩, fr.conv fun k _ hf => ?_⟩
    rcases BF_of hb' hf with rfl | rfl
    · exact Or.inl rfl
    · exact BF_row hb

theorem Buf.cells {w : World} {b T : Nat} {z : Bool} {l : List UInt8} (h : Buf w b T z l) : ∃ a n c lr, w.cell? ⟨b, 0, none⟩ = some (.slice a n c) ∧ w.cell? ⟨b, 2, none⟩ = some (.int .i8 lr) ∧ (∀ i, w.frozen? ⟨b, i, none⟩ = false) ∧ n ≤ c ∧ c ≤ maxLen := by
  rcases h with ⟨rfl, lr, hb⟩ | ⟨lr, r, n, c, o, cur, hb, hr, hcs, hc, hon, hnc, hT, hl, hz⟩
  · exact ⟨none, 0, 0, lr, by rw [cell_at hb]; rfl, by rw [cell_at hb]; rfl, free_at hb, Nat.le_refl _, Nat.zero_le _⟩
  · exact ⟨_, n, c, lr, by rw [cell_at hb]; rfl, by rw [cell_at hb]; rfl, free_at hb, hnc, hc⟩

/-- One cell is written. -/
theorem Room.poke {w : World} {b T i : Nat} {z : Bool} {l : List UInt8} (h : Room w b T z l i 1) :
    ∃ r c old, w.cell? ⟨b, 0, none⟩ = some (.slice (some ⟨r, 0, none⟩) (i + 1) c) ∧ i + 1 ≤ c ∧ c ≤ maxLen ∧ w.cell? ⟨r, i, none⟩ = some old ∧ w.frozen? ⟨r, i, none⟩ = false ∧ BF w b r ∧
      (∀ u : UInt8, Buf (w.setCell ⟨r, i, none⟩ (.int .u8 u.toNat)) b T z (l ++ [u]) ∧ (∀ k, BF (w.setCell ⟨r, i, none⟩ (.int .u8 u.toNat)) b k → BF w b k)) := by
  obtain ⟨lr, r, c, o, cur, hb, hr, hcs, hc, ho, hi, hT, hl, hz⟩ := h
  have hrb : r ≠ b := tag_ne hr hb (by decide)
  have hlt : i < cur.size := by omega
  refine ⟨r, c, cur[i], by rw [cell_at hb]; rfl, hi, hc, by rw [cell_at hr, Array.getElem?_eq_getElem hlt], free_at hr i, BF_row hb, fun u => ?_⟩
  have hb' := setCell_ne (b := r) (i := i) hb (Ne.symm hrb) (.int .u8 u.toNat)
  refine ⟨Or.inr ⟨lr, r, i + 1, c, o, _, hb', setCell_at hr _, by simpa using hcs, hc, by omega, hi, hT, ?_, hz⟩, fun k hk => (BF.of_same (hb'.trans hb.symm)).1 hk⟩
  have hll : i < cur.toList.length := by rw [Array.length_toList]; exact hlt
  rw [Array.toList_setIfInBounds, List.take_add_one, List.take_set_of_le (Nat.le_refl _), List.getElem?_set_self hll, Option.toList_some,
    List.drop_append_of_le_length (by rw [List.length_take]; omega), hl, bcells_append]
  rfl

/-- What a writer leaves. -/
def Wrote (w : World) (b T : Nat) (l news : List UInt8) (v : Value) (e : Ending) (w' : World) : Prop :=
  e = .returned v ∧ Buf w' b (T + news.length) true (l ++ news) ∧ Fr (BF w b) (BF w' b) w w'

set_option maxHeartbeats 1000000 in
/-- WriteByte. -/
theorem Buf_WriteByte (b T : Nat) (l : List UInt8) (u : UInt8) (w : World) (h : Buf w b T true l) (hlim : T + 1 ≤ LIM) :
    Calls Tryz.prog 113 #[.pointer (some ⟨b, 0, none⟩), .int .u8 u.toNat] w (Wrote w b T l [u] .nilIface) := by
  obtain ⟨a, n, c, lr, c0, c2, ff, hnc, hcm⟩ := h.cells
  have f2 := ff 2
  obtain ⟨h1, fr1⟩ := h.setLast 0
  have hlast : ∀ (W1 : World) (i : Nat), Room W1 b (T + 1) true l i 1 → Fr (BF w b) (BF W1 b) w W1 → ∃ r c old, W1.cell? ⟨b, 0, none⟩ = some (.slice (some ⟨r, 0, none⟩) (i + 1) c) ∧ i + 1 ≤ c ∧ c ≤ maxLen ∧ W1.cell? ⟨r, i, none⟩ = some old ∧ W1.frozen? ⟨r, i, none⟩ = false ∧
      Hid (Wrote w b T l [u] .nilIface (.returned .nilIface) (W1.setCell ⟨r, i, none⟩ (.int .u8 u.toNat))) := by
    intro W1 i hR hF
    obtain ⟨r, c, old, e1, e2, e3, e4, e5, e6, e7⟩ := hR.poke
    exact ⟨r, c, old, e1, e2, e3, e4, e5, rfl, (e7 u).1, (hF.setCell (p := ⟨r, i, none⟩) (Or.inl e6) _).conv fun k _ hk => (e7 u).2 k hk⟩
  have HLast := Lib.hid hlast
  have H1 := Lib.hid h1
  have HF1 := Lib.hid fr1
  clear c0 ff hnc hcm hlast h1 fr1 h
  go_enter Tryz.func113, Tryz.ntmps113
  go_wp2_with (go_at_call 86; refine (Buf_try b T 1 l _ H1.out (by omega)).mono ?_)
  rintro e W1 (⟨i, rfl, hR, hF⟩ | ⟨rfl, rfl, hno⟩)
  · obtain ⟨r, c, old, e1, e2, e3, e4, e5, hE⟩ := HLast.out W1 i hR (HF1.out.trans hF)
    clear hR hF c2 f2
    unfold maxLen at e3
    go_wp2
    go_ret
    exact hE.out
  · go_wp2_with (go_at_call 87; refine (Buf_grow b T 1 l _ H1.out hno hlim).mono ?_)
    rintro e W1 ⟨i, rfl, hR, hF⟩
    obtain ⟨r, c, old, e1, e2, e3, e4, e5, hE⟩ := HLast.out W1 i hR (HF1.out.trans hF)
    clear hR hF c2 f2 hno
    unfold maxLen at e3
    go_wp2
    go_ret
    exact hE.out

theorem hinfo : (Tryz.prog.info? 5).map (·.size) = some 1 := size_u8

set_option maxHeartbeats 1000000 in
/-- Write of at least one byte. -/
theorem Buf_Write_some (b T n c' : Nat) (l news : List UInt8) (a : Addr) (w : World) (h : Buf w b T true l) (hlim : T + n ≤ LIM) (hn1 : 1 ≤ n) (hlen : news.length = n) (hsrc : ∀ j v, (Lib.byteCells news)[j]? = some v → w.cell? (a.add j) = some v) (hfar : ¬ BF w b a.block) :
    Calls Tryz.prog 78 #[.pointer (some ⟨b, 0, none⟩), .slice (some a) n c'] w (Wrote w b T l news (.tuple #[.int .i64 n, .nilIface])) := by
  obtain ⟨a0, n0, c0', lr, c0, c2, ff, hnc, hcm⟩ := h.cells
  have f2 := ff 2
  obtain ⟨h1, fr1⟩ := h.setLast 0
  have hlim' := hlim
  unfold LIM at hlim'
  have hlast : ∀ (W1 : World) (i : Nat), Room W1 b (T + n) true l i n → Fr (BF w b) (BF W1 b) w W1 → ∃ r c Y, W1.cell? ⟨b, 0, none⟩ = some (.slice (some ⟨r, 0, none⟩) (i + n) c) ∧ i + n ≤ c ∧ c ≤ maxLen ∧
      (Builtin.copy_ #[35, 35] 3 #[.slice (some ⟨r, i, none⟩) n (c - i), .slice (some a) n c']).run Tryz.prog W1 = .ok (goInt n) (W1.setRow r Y) ∧
      Hid (Wrote w b T l news (.tuple #[.int .i64 n, .nilIface]) (.returned (.tuple #[.int .i64 n, .nilIface])) (W1.setRow r Y)) := by
    intro W1 i hR hF
    subst hlen
    obtain ⟨r, c, cur, e1, e2, e3, e4, e5, e6, e7, e8, e9⟩ := hR.fill news
    have hs1 : ∀ j v, (Lib.byteCells news)[j]? = some v → W1.cell? (a.add j) = some v := fun j v hj => hF.cell (hsrc j v hj) (by rw [block_add']; exact hfar)
    have hcp := run_copy_row (P := Tryz.prog) W1 35 35 3 5 r i news.length (c - i) a news.length c' cur U8 (Lib.byteCells news) Tryz.underlying35 hinfo e5 (by rw [bcells_length]; exact (Nat.min_self _).symm) hs1 (by rw [bcells_length]; omega) (Lib.byteCells_one news)
    rw [bcells_length] at hcp
    exact ⟨r, c, _, e1, e2, e3, hcp, rfl, e8, (hF.setRow (Or.inl e7) _).conv fun k _ hk => e9 k hk⟩
  have HLast := Lib.hid hlast
  have H1 := Lib.hid h1
  have HF1 := Lib.hid fr1
  clear c0 ff hnc hcm hlast h1 fr1 h hsrc hlen
  go_enter Tryz.func78, Tryz.ntmps78
  go_wp2_with (go_at_call 86; refine (Buf_try b T n l _ H1.out hn1).mono ?_)
  rintro e W1 (⟨i, rfl, hR, hF⟩ | ⟨rfl, rfl, hno⟩)
  · obtain ⟨r, c, Y, e1, e2, e3, e4, hE⟩ := HLast.out W1 i hR (HF1.out.trans hF)
    clear hR hF c2 f2
    have hne : ¬ c = i := by omega
    unfold maxLen at e3
    go_wp2
    go_ret2
    exact hE.out
  · go_wp2_with (go_at_call 87; refine (Buf_grow b T n l _ H1.out hno hlim).mono ?_)
    rintro e W1 ⟨i, rfl, hR, hF⟩
    obtain ⟨r, c, Y, e1, e2, e3, e4, hE⟩ := HLast.out W1 i hR (HF1.out.trans hF)
    clear hR hF c2 f2 hno
    have hne : ¬ c = i := by omega
    unfold maxLen at e3
    go_wp2
    go_ret2
    exact hE.out

set_option maxHeartbeats 1000000 in
/-- WriteString of at least one byte. -/
theorem Buf_WriteString_some (b T : Nat) (l : List UInt8) (s : ByteArray) (w : World) (h : Buf w b T true l) (hlim : T + s.size ≤ LIM) (hn1 : 1 ≤ s.size) :
    Calls Tryz.prog 114 #[.pointer (some ⟨b, 0, none⟩), .string s] w (Wrote w b T l s.data.toList (.tuple #[.int .i64 s.size, .nilIface])) := by
  obtain ⟨a0, n0, c0', lr, c0, c2, ff, hnc, hcm⟩ := h.cells
  have f2 := ff 2
  obtain ⟨h1, fr1⟩ := h.setLast 0
  have hlim' := hlim
  unfold LIM at hlim'
  have hss : s.data.toList.length = s.size := by rw [Array.length_toList]; rfl
  have hlast : ∀ (W1 : World) (i : Nat), Room W1 b (T + s.size) true l i s.size → Fr (BF w b) (BF W1 b) w W1 → ∃ r c Y, W1.cell? ⟨b, 0, none⟩ = some (.slice (some ⟨r, 0, none⟩) (i + s.size) c) ∧ i + s.size ≤ c ∧ c ≤ maxLen ∧
      (Builtin.copy_ #[35, 9] 3 #[.slice (some ⟨r, i, none⟩) s.size (c - i), .string s]).run Tryz.prog W1 = .ok (goInt s.size) (W1.setRow r Y) ∧
      Hid (Wrote w b T l s.data.toList (.tuple #[.int .i64 s.size, .nilIface]) (.returned (.tuple #[.int .i64 s.size, .nilIface])) (W1.setRow r Y)) := by
    intro W1 i hR hF
    rw [← hss] at hR
    obtain ⟨r, c, cur, e1, e2, e3, e4, e5, e6, e7, e8, e9⟩ := hR.fill s.data.toList
    rw [hss] at e1 e2 e8 e9
    have hcp := Lib.run_copy_row_string (P := Tryz.prog) W1 35 9 3 5 r i s.size (c - i) s cur U8 Tryz.underlying35 hinfo e5 (Nat.le_refl _) (by omega)
    exact ⟨r, c, _, e1, e2, e3, hcp, rfl, by rw [hss]; exact e8, (hF.setRow (Or.inl e7) _).conv fun k _ hk => e9 k hk⟩
  have HLast := Lib.hid hlast
  have H1 := Lib.hid h1
  have HF1 := Lib.hid fr1
  clear c0 ff hnc hcm hlast h1 fr1 h hss
  go_enter Tryz.func114, Tryz.ntmps114
  go_wp2_with (go_at_call 86; refine (Buf_try b T s.size l _ H1.out hn1).mono ?_)
  rintro e W1 (⟨i, rfl, hR, hF⟩ | ⟨rfl, rfl, hno⟩)
  · obtain ⟨r, c, Y, e1, e2, e3, e4, hE⟩ := HLast.out W1 i hR (HF1.out.trans hF)
    clear hR hF c2 f2
    have hne : ¬ c = i := by omega
    unfold maxLen at e3
    go_wp2
    go_ret2
    exact hE.out
  · go_wp2_with (go_at_call 87; refine (Buf_grow b T s.size l _ H1.out hno hlim).mono ?_)
    rintro e W1 ⟨i, rfl, hR, hF⟩
    obtain ⟨r, c, Y, e1, e2, e3, e4, hE⟩ := HLast.out W1 i hR (HF1.out.trans hF)
    clear hR hF c2 f2 hno
    have hne : ¬ c = i := by omega
    unfold maxLen at e3
    go_wp2
    go_ret2
    exact hE.out

/-- tryGrowByReslice by nothing. -/
theorem Buf_try0 (b T : Nat) (l : List UInt8) (w : World) (h : Buf w b T true l) :
    Calls Tryz.prog 86 #[.pointer (some ⟨b, 0, none⟩), .int .i64 0] w (fun e w' => ∃ n, e = .returned (.tuple #[.int .i64 ((n : Nat) : Int), .bool true]) ∧ (∃ a c, w'.cell? ⟨b, 0, none⟩ = some (.slice a n c) ∧ n ≤ c ∧ c ≤ maxLen) ∧ Buf w' b T true l ∧ Fr (BF w b) (BF w' b) w w') := by
  rcases h with ⟨rfl, lr, hb⟩ | ⟨lr, r, n, c, o, cur, hb, hr, hcs, hc, hon, hnc, hT, hl, hz⟩
  · refine (tryGrow_yes b none 0 0 0 w (by rw [cell_at hb]; rfl) (free_at hb 0) (Nat.le_refl _) (Nat.zero_le _) (Nat.le_refl _)).mono ?_
    rintro e w' ⟨he, rfl⟩
    have hb' := setCell_at (i := 0) hb (.slice none (0 + 0) 0)
    exact ⟨0, he, ⟨none, 0, by rw [cell_at hb']; rfl, Nat.le_refl _, Nat.zero_le _⟩, Or.inl ⟨rfl, lr, hb'⟩, ((Fr.refl (BF w b) w).setCell (p := ⟨b, 0, none⟩) (Or.inl (Or.inl rfl)) _).conv fun k _ hf => Or.inl (BF_nil hb' hf)⟩
  · refine (tryGrow_yes b _ n c 0 w (by rw [cell_at hb]; rfl) (free_at hb 0) hnc hc (Nat.zero_le _)).mono ?_
    rintro e w' ⟨he, rfl⟩
    have hb' := setCell_at (i := 0) hb (.slice (some ⟨r, 0, none⟩) (n + 0) c)
    have hrb : r ≠ b := tag_ne hr hb (by decide)
    refine ⟨n, he, ⟨_, c, by rw [cell_at hb']; rfl, hnc, hc⟩, Or.inr ⟨lr, r, n, c, o, cur, hb', setCell_ne hr hrb _, hcs, hc, hon, hnc, hT, hl, hz⟩, ((Fr.refl (BF w b) w).setCell (p := ⟨b, 0, none⟩) (Or.inl (Or.inl rfl)) _).conv fun k _ hf => ?_⟩
    rcases BF_of hb' hf with rfl | rfl
    · exact Or.inl rfl
    · exact BF_row hb

set_option maxHeartbeats 1000000 in
/-- Write of nothing. -/
theorem Buf_Write_none (b T c' : Nat) (l : List UInt8) (a : Option Addr) (w : World) (h : Buf w b T true l) :
    Calls Tryz.prog 78 #[.pointer (some ⟨b, 0, none⟩), .slice a 0 c'] w (Wrote w b T l [] (.tuple #[.int .i64 0, .nilIface])) := by
  obtain ⟨a0, n0, c0', lr, c0, c2, ff, hnc, hcm⟩ := h.cells
  have f2 := ff 2
  obtain ⟨h1, fr1⟩ := h.setLast 0
  have hce : ∀ d dLen dCap W, (Builtin.copy_ #[35, 35] 3 #[.slice d dLen dCap, .slice a 0 c']).run Tryz.prog W = .ok (goInt 0) W := fun d dLen dCap W => run_copy_none W 35 35 3 5 d a dLen dCap 0 c' Tryz.underlying35 hinfo (by simp)
  have H1 := Lib.hid h1
  have HF1 := Lib.hid fr1
  clear c0 ff hnc hcm h1 fr1 h
  go_enter Tryz.func78, Tryz.ntmps78
  go_wp2_with (go_at_call 86; refine (Buf_try0 b T l _ H1.out).mono ?_)
  rintro e W1 ⟨i, rfl, ⟨a1, c, e1, e2, e3⟩, hB, hF⟩
  have HE := Lib.hid (show Wrote w b T l [] (.tuple #[.int .i64 0, .nilIface]) (.returned (.tuple #[.int .i64 0, .nilIface])) W1 from ⟨rfl, by simpa using hB, HF1.out.trans hF⟩)
  clear hB hF c2 f2
  unfold maxLen at e3
  go_wp2
  all_goals
    go_ret2
    exact HE.out

set_option maxHeartbeats 1000000 in
/-- WriteString of nothing. -/
theorem Buf_WriteString_none (b T : Nat) (l : List UInt8) (s : ByteArray) (w : World) (h : Buf w b T true l) (hs0 : s.size = 0) :
    Calls Tryz.prog 114 #[.pointer (some ⟨b, 0, none⟩), .string s] w (Wrote w b T l [] (.tuple #[.int .i64 0, .nilIface])) := by
  obtain ⟨a0, n0, c0', lr, c0, c2, ff, hnc, hcm⟩ := h.cells
  have f2 := ff 2
  obtain ⟨h1, fr1⟩ := h.setLast 0
  have hce : ∀ d dLen dCap W, (Builtin.copy_ #[35, 9] 3 #[.slice d dLen dCap, .string s]).run Tryz.prog W = .ok (goInt 0) W := fun d dLen dCap W => Lib.run_copy_empty_string W 35 9 3 5 d dLen dCap s Tryz.underlying35 (by rw [hinfo]; rfl) hs0
  have hs0' : ((s.size : Nat) : Int) = 0 := by omega
  have H1 := Lib.hid h1
  have HF1 := Lib.hid fr1
  clear c0 ff hnc hcm h1 fr1 h
  go_enter Tryz.func114, Tryz.ntmps114
  go_wp2_with (go_at_call 86; refine (Buf_try0 b T l _ H1.out).mono ?_)
  rintro e W1 ⟨i, rfl, ⟨a1, c, e1, e2, e3⟩, hB, hF⟩
  have HE := Lib.hid (show Wrote w b T l [] (.tuple #[.int .i64 0, .nilIface]) (.returned (.tuple #[.int .i64 0, .nilIface])) W1 from ⟨rfl, by simpa using hB, HF1.out.trans hF⟩)
  clear hB hF c2 f2
  unfold maxLen at e3
  go_wp2
  all_goals
    go_ret2
    exact HE.out

/-- Write. -/
theorem Buf_Write (b T : Nat) (l news : List UInt8) (v : Value) (w : World) (h : Buf w b T true l) (hlim : T + news.length ≤ LIM) (hv : Rd w v news) (hfar : ∀ k, vblk v k → ¬ BF w b k) :
    Calls Tryz.prog 78 #[.pointer (some ⟨b, 0, none⟩), v] w (Wrote w b T l news (.tuple #[.int .i64 (news.length : Nat), .nilIface])) := by
  rcases hv with ⟨rfl, rfl⟩ | ⟨a, n, c, rfl, hl, hc, hm, hs⟩
  · exact Buf_Write_none b T 0 l none w h
  · have hsrc := (Rd.src (Or.inr ⟨a, n, c, rfl, hl, hc, hm, hs⟩)).2
    rcases Nat.eq_zero_or_pos n with h0 | h0
    · subst h0
      obtain rfl := List.eq_nil_of_length_eq_zero hl
      exact Buf_Write_none b T c l (some a) w h
    · rw [hl]
      refine Buf_Write_some b T n c l news a w h (by omega) h0 hl hsrc ?_
      obtain ⟨m, rfl⟩ : ∃ m, n = m + 1 := ⟨n - 1, by omega⟩
      exact hfar _ rfl

/-- WriteString. -/
theorem Buf_WriteString (b T : Nat) (l : List UInt8) (s : ByteArray) (w : World) (h : Buf w b T true l) (hlim : T + s.size ≤ LIM) :
    Calls Tryz.prog 114 #[.pointer (some ⟨b, 0, none⟩), .string s] w (Wrote w b T l s.data.toList (.tuple #[.int .i64 s.size, .nilIface])) := by
  rcases Nat.eq_zero_or_pos s.size with h0 | h0
  · have : s.data.toList = [] := List.eq_nil_of_length_eq_zero (by rw [Array.length_toList]; exact h0)
    rw [this, h0]
    exact Buf_WriteString_none b T l s w h h0
  · exact Buf_WriteString_some b T l s w h hlim h0
end Go.Proofs.YtdedkoahfailcaaGreatDoor
