/- The compact protocol over a memory buffer: fields, bools, the begins and ends of structs are written. -/
import Derived.Deep.AppendLies
import Derived.Deep.RegionLaw
import Derived.StillTailTactics
import Derived.Test.YtoikkjefaakchaaGreatDoorZCY
import Derived.Test.YtoikkjefaakchaaGreatDoorZ1
set_option linter.all false
namespace Go.Proofs.YtoikkjefaakchaaGreatDoor
open Go Go.RowKit
set_option maxHeartbeats 1000000
set_option maxRecDepth 100000

/-- The begin of a field. -/
def fieldC (last code id : Int) : List UInt8 := if last < id ∧ id - last ≤ 15 then [b8 ((id - last) * 16 + code)] else b8 code :: vint (zig id).toNat

/-- The last id is stored. -/
theorem CP.setLast {w : World} {p m b T : Nat} {cf : Value} {s : CSt} {z : Bool} {l : List UInt8} (h : CP w p m b cf s T z l) (id : Int) :
    (∃ u, w.cell? ⟨p, 4, none⟩ = some u) ∧ w.frozen? ⟨p, 4, none⟩ = false ∧ CP (w.setCell ⟨p, 4, none⟩ (.int .i64 id)) p m b cf { s with last := id } T z l ∧ Fr (CPF w p b) (CPF (w.setCell ⟨p, 4, none⟩ (.int .i64 id)) p b) w (w.setCell ⟨p, 4, none⟩ (.int .i64 id)) := by
  obtain ⟨sv, bf, hbf, ha, ho⟩ := h.arr
  have hf : Fr (one p) (one p) w (w.setCell ⟨p, 4, none⟩ (.int .i64 id)) := (Fr.refl (one p) w).setCell (p := ⟨p, 4, none⟩) (Or.inl rfl) _
  obtain ⟨h1, h2⟩ := h.own (s' := { s with last := id }) hf rfl fun sv bf hb ha => ⟨bf, hb, ha.setHead 4 (by simp [hdC]) _⟩
  exact ⟨⟨_, ha.head 4 _ rfl⟩, ha.free 4, h1, h2⟩
theorem CP.setPend {w : World} {p m b T : Nat} {cf : Value} {s : CSt} {z : Bool} {l : List UInt8} (h : CP w p m b cf s T z l) (v : Bool) :
    (∃ u, w.cell? ⟨p, 7, none⟩ = some u) ∧ w.frozen? ⟨p, 7, none⟩ = false ∧ CP (w.setCell ⟨p, 7, none⟩ (.bool v)) p m b cf { s with pend := v } T z l ∧ Fr (CPF w p b) (CPF (w.setCell ⟨p, 7, none⟩ (.bool v)) p b) w (w.setCell ⟨p, 7, none⟩ (.bool v)) := by
  obtain ⟨sv, bf, hbf, ha, ho⟩ := h.arr
  have hf : Fr (one p) (one p) w (w.setCell ⟨p, 7, none⟩ (.bool v)) := (Fr.refl (one p) w).setCell (p := ⟨p, 7, none⟩) (Or.inl rfl) _
  obtain ⟨h1, h2⟩ := h.own (s' := { s with pend := v }) hf rfl fun sv bf hb ha => ⟨bf, hb, ha.setHead 7 (by simp [hdC]) _⟩
  exact ⟨⟨_, ha.head 7 _ rfl⟩, ha.free 7, h1, h2⟩
theorem CP.setBool {w : World} {p m b T : Nat} {cf : Value} {s : CSt} {z : Bool} {l : List UInt8} (h : CP w p m b cf s T z l) (nm : ByteArray) (id : Int) :
    CP (((w.setCell ⟨p, 5, none⟩ (.string nm)).setCell ⟨p, 6, none⟩ (.int .i16 id)).setCell ⟨p, 7, none⟩ (.bool true)) p m b cf { s with pend := true, pid := id, pnm := nm } T z l ∧ Fr (CPF w p b) (CPF (((w.setCell ⟨p, 5, none⟩ (.string nm)).setCell ⟨p, 6, none⟩ (.int .i16 id)).setCell ⟨p, 7, none⟩ (.bool true)) p b) w (((w.setCell ⟨p, 5, none⟩ (.string nm)).setCell ⟨p, 6, none⟩ (.int .i16 id)).setCell ⟨p, 7, none⟩ (.bool true)) := by
  have hf : Fr (one p) (one p) w (((w.setCell ⟨p, 5, none⟩ (.string nm)).setCell ⟨p, 6, none⟩ (.int .i16 id)).setCell ⟨p, 7, none⟩ (.bool true)) := (((Fr.refl (one p) w).setCell (p := ⟨p, 5, none⟩) (Or.inl rfl) _).setCell (p := ⟨p, 6, none⟩) (Or.inl rfl) _).setCell (p := ⟨p, 7, none⟩) (Or.inl rfl) _
  exact h.own (s' := { s with pend := true, pid := id, pnm := nm }) hf rfl fun sv bf hb ha => ⟨bf, hb, ((ha.setHead 5 (by simp [hdC]) (.string nm)).setHead 6 (by simp [hdC]) (.int .i16 id)).setHead 7 (by simp [hdC]) (.bool true)⟩

theorem C_fieldI (p m b T : Nat) (cf c nm : Value) (s : CSt) (l : List UInt8) (t id ov : Int) (code : Int) (hc0 : 0 ≤ code) (hc1 : code < 16) (hov : (ov = 255 ∧ code = ctype t) ∨ (ov ≠ 255 ∧ code = ov)) (hid : -32768 ≤ id ∧ id < 32768) (hlast : -32768 ≤ s.last ∧ s.last < 32768)
    (w : World) (h : CP w p m b cf s T true l) (hlim : T + 6 ≤ LIM) :
    Calls Tryz.prog 223 #[.pointer (some ⟨p, 0, none⟩), c, nm, .int .u8 t, .int .i16 id, .int .u8 ov] w (fun e w' => ∃ k : Int, CW w p m b cf s { s with last := id } T l (fieldC s.last code id) (.tuple #[.int .i64 k, .nilIface]) e w') := by
  -- the type, asked or given: what stands then
  have hct := C_ct p m b T cf s l t
  have HC := Lib.hid hct
  have hcell : ∀ X, CP X p m b cf s T true l → X.cell? ⟨p, 4, none⟩ = some (.int .i64 s.last) := fun X hX => by
    obtain ⟨sv, bf, hbf, ha, ho⟩ := hX.arr
    exact ha.head 4 _ rfl
  have HCe := Lib.hid hcell
  have hend : ∀ X news e v Y, Fr (CPF w p b) (CPF X p b) w X → CW X p m b cf s s T l news v e Y → (∃ u, Y.cell? ⟨p, 4, none⟩ = some u) ∧ Y.frozen? ⟨p, 4, none⟩ = false ∧ ∀ v', CW w p m b cf s { s with last := id } T l news v' (.returned v') (Y.setCell ⟨p, 4, none⟩ (.int .i64 id)) := fun X news e v Y hX hY => by
    obtain ⟨h1, h2, h3, h4⟩ := hY.2.1.setLast id
    exact ⟨h1, h2, fun v' => ⟨rfl, h3, hX.trans (hY.2.2.trans h4)⟩⟩
  have HE := Lib.hid hend
  have HQ := Lib.hid (show fieldC s.last code id = if s.last < id ∧ id - s.last ≤ 15 then [b8 ((id - s.last) * 16 + code)] else b8 code :: vint (zig id).toNat from rfl)
  obtain ⟨la, hla⟩ : ∃ la, la = s.last := ⟨_, rfl⟩
  rw [← hla] at HQ HCe hlast ⊢
  obtain ⟨l1, l2⟩ := hlast
  obtain ⟨d1, d2⟩ := hid
  have HL := Lib.hid hlim
  have H := Lib.hid h
  have w1' : wrap64 id = id := by unfold wrap64; omega
  have w2' : wrap64 (id - la) = id - la := by unfold wrap64; omega
  have w3' : wrap64 ((id - la) * 16) = (id - la) * 16 := by unfold wrap64; omega
  have i1 : IntKind.i64.wrap id = id := by rw [IntKind.wrap_i64]; omega
  clear hct hcell hend hlim hla
  rcases hov with ⟨rfl, hcode⟩ | ⟨hov, rfl⟩
  · have HC2 := Lib.hid (HC.out w H.out)
    rw [← hcode] at HC2
    clear hcode HC h
    go_enter Tryz.func223, Tryz.ntmps223
    go_wp2_with fail
    refine HC2.out.mono ?_
    rintro e w1 ⟨rfl, hP, hF⟩
    have H1 := Lib.hid (And.intro hP hF)
    clear hP hF
    rcases (show (la < id ∧ id - la ≤ 15) ∨ (¬ la < id) ∨ (la < id ∧ ¬ id - la ≤ 15) by omega) with ⟨q1, q2⟩ | q1 | ⟨q1, q2⟩
    · have c4 := HCe.out w1 H1.out.1
      have HD := Lib.hid (HQ.out.trans (if_pos ⟨q1, q2⟩))
      have ho := or_u8 (id - la) code (by omega) (by omega) hc0 hc1
      have hb : (id - la) * 16 % 256 = (id - la) * 16 := by omega
      go_wp2_with fail
      refine (C_byteD p m b T cf s l _ (by omega) (by omega) w1 H1.out.1 (by have := HL.out; omega)).mono ?_
      rintro e w2 hw
      obtain rfl := hw.1
      obtain ⟨⟨u4, c5⟩, f5, hfin⟩ := HE.out _ _ _ _ _ (H1.out.2) hw
      have HX := Lib.hid hfin
      clear hw hfin c4
      go_wp2
      go_ret2
      rw [HD.out]
      exact ⟨_, HX.out _⟩
    · have c4 := HCe.out w1 H1.out.1
      have HD := Lib.hid (HQ.out.trans (if_neg (by omega)))
      go_wp2_with fail
      refine (C_byteD p m b T cf s l _ hc0 (by omega) w1 H1.out.1 (by have := HL.out; omega)).mono ?_
      rintro e w2 hw
      obtain rfl := hw.1
      have H2 := Lib.hid hw
      clear hw c4
      go_wp2_with fail
      refine (C_WriteI16 p m b _ cf _ s _ id d1 d2 w2 H2.out.2.1 (by have := HL.out; simp only [List.length_singleton]; omega)).mono ?_
      rintro e w3 hw
      obtain rfl := hw.1
      obtain ⟨⟨u4, c5⟩, f5, hfin⟩ := HE.out _ _ _ _ _ (H1.out.2) (H2.out.seq hw)
      have HX := Lib.hid hfin
      clear hw hfin
      go_wp2
      go_ret2
      rw [HD.out]
      exact ⟨_, HX.out _⟩
    · have c4 := HCe.out w1 H1.out.1
      have HD := Lib.hid (HQ.out.trans (if_neg (by omega)))
      go_wp2_with fail
      refine (C_byteD p m b T cf s l _ hc0 (by omega) w1 H1.out.1 (by have := HL.out; omega)).mono ?_
      rintro e w2 hw
      obtain rfl := hw.1
      have H2 := Lib.hid hw
      clear hw c4
      go_wp2_with fail
      refine (C_WriteI16 p m b _ cf _ s _ id d1 d2 w2 H2.out.2.1 (by have := HL.out; simp only [List.length_singleton]; omega)).mono ?_
      rintro e w3 hw
      obtain rfl := hw.1
      obtain ⟨⟨u4, c5⟩, f5, hfin⟩ := HE.out _ _ _ _ _ (H1.out.2) (H2.out.seq hw)
      have HX := Lib.hid hfin
      clear hw hfin
      go_wp2
      go_ret2
      rw [HD.out]
      exact ⟨_, HX.out _⟩
  · have hov0 : (code == 255) = false := beq_eq_false_iff_ne.2 hov
    clear hov HC h
    go_enter Tryz.func223, Tryz.ntmps223
    rcases (show (la < id ∧ id - la ≤ 15) ∨ (¬ la < id) ∨ (la < id ∧ ¬ id - la ≤ 15) by omega) with ⟨q1, q2⟩ | q1 | ⟨q1, q2⟩
    · have c4 := HCe.out w H.out
      have HD := Lib.hid (HQ.out.trans (if_pos ⟨q1, q2⟩))
      have ho := or_u8 (id - la) code (by omega) (by omega) hc0 hc1
      have hb : (id - la) * 16 % 256 = (id - la) * 16 := by omega
      go_wp2_with fail
      refine (C_byteD p m b T cf s l _ (by omega) (by omega) w H.out (by have := HL.out; omega)).mono ?_
      rintro e w2 hw
      obtain rfl := hw.1
      obtain ⟨⟨u4, c5⟩, f5, hfin⟩ := HE.out _ _ _ _ _ (Fr.refl _ w) hw
      have HX := Lib.hid hfin
      clear hw hfin c4
      go_wp2
      go_ret2
      rw [HD.out]
      exact ⟨_, HX.out _⟩
    · have c4 := HCe.out w H.out
      have HD := Lib.hid (HQ.out.trans (if_neg (by omega)))
      go_wp2_with fail
      refine (C_byteD p m b T cf s l _ hc0 (by omega) w H.out (by have := HL.out; omega)).mono ?_
      rintro e w2 hw
      obtain rfl := hw.1
      have H2 := Lib.hid hw
      clear hw c4
      go_wp2_with fail
      refine (C_WriteI16 p m b _ cf _ s _ id d1 d2 w2 H2.out.2.1 (by have := HL.out; simp only [List.length_singleton]; omega)).mono ?_
      rintro e w3 hw
      obtain rfl := hw.1
      obtain ⟨⟨u4, c5⟩, f5, hfin⟩ := HE.out _ _ _ _ _ (Fr.refl _ w) (H2.out.seq hw)
      have HX := Lib.hid hfin
      clear hw hfin
      go_wp2
      go_ret2
      rw [HD.out]
      exact ⟨_, HX.out _⟩
    · have c4 := HCe.out w H.out
      have HD := Lib.hid (HQ.out.trans (if_neg (by omega)))
      go_wp2_with fail
      refine (C_byteD p m b T cf s l _ hc0 (by omega) w H.out (by have := HL.out; omega)).mono ?_
      rintro e w2 hw
      obtain rfl := hw.1
      have H2 := Lib.hid hw
      clear hw c4
      go_wp2_with fail
      refine (C_WriteI16 p m b _ cf _ s _ id d1 d2 w2 H2.out.2.1 (by have := HL.out; simp only [List.length_singleton]; omega)).mono ?_
      rintro e w3 hw
      obtain rfl := hw.1
      obtain ⟨⟨u4, c5⟩, f5, hfin⟩ := HE.out _ _ _ _ _ (Fr.refl _ w) (H2.out.seq hw)
      have HX := Lib.hid hfin
      clear hw hfin
      go_wp2
      go_ret2
      rw [HD.out]
      exact ⟨_, HX.out _⟩

theorem C_WriteFieldBegin (p m b T : Nat) (cf c : Value) (nm : ByteArray) (s : CSt) (l : List UInt8) (t id : Int) (w : World) (h : CP w p m b cf s T true l) (hlast : -32768 ≤ s.last ∧ s.last < 32768) (hid : -32768 ≤ id ∧ id < 32768) (hlim : T + 6 ≤ LIM) :
    Calls Tryz.prog 193 #[.pointer (some ⟨p, 0, none⟩), c, .string nm, .int .u8 t, .int .i16 id] w (CW w p m b cf s (if t = 2 then { s with pend := true, pid := id, pnm := nm } else { s with last := id }) T l (if t = 2 then [] else fieldC s.last (ctype t) id) .nilIface) := by
  by_cases ht : t = 2
  · subst ht
    simp only [if_true]
    obtain ⟨sv, bf, hbf, ha, ho⟩ := h.arr
    have c5 := ha.head 5 _ rfl
    have c6 := ha.head 6 _ rfl
    have c7 := ha.head 7 _ rfl
    have ff := ha.free
    have HB := Lib.hid (h.setBool nm id)
    clear h ha hbf ho hlim hlast hid
    go_enter Tryz.func193, Tryz.ntmps193
    go_wp2
    go_ret
    exact ⟨rfl, by simpa using HB.out.1, HB.out.2⟩
  · simp only [if_neg ht]
    have ht2 : (t == 2) = false := beq_eq_false_iff_ne.2 ht
    have H := Lib.hid (C_fieldI p m b T cf c (.string nm) s l t id 255 (ctype t) (ctype_lo t) (by have := ctype_hi t; omega) (Or.inl ⟨rfl, rfl⟩) hid hlast w h hlim)
    clear h hlim hlast hid ht
    go_enter Tryz.func193, Tryz.ntmps193
    go_wp2_with fail
    refine H.out.mono ?_
    rintro e w1 ⟨k, hw⟩
    obtain rfl := hw.1
    have HW := Lib.hid hw
    clear hw
    go_wp2_with (go_at_call 212; refine (exc_nil _).mono ?_; rintro e w' ⟨rfl, rfl⟩)
    go_ret
    exact ⟨rfl, HW.out.2⟩

theorem C_WriteBool (p m b T : Nat) (cf c : Value) (s : CSt) (l : List UInt8) (v : Bool) (w : World) (h : CP w p m b cf s T true l) (hlast : -32768 ≤ s.last ∧ s.last < 32768) (hid : -32768 ≤ s.pid ∧ s.pid < 32768) (hlim : T + 6 ≤ LIM) :
    Calls Tryz.prog 190 #[.pointer (some ⟨p, 0, none⟩), c, .bool v] w (CW w p m b cf s (if s.pend then { s with last := s.pid, pend := false } else s) T l (if s.pend then fieldC s.last (if v then 1 else 2) s.pid else [if v then 1 else 2]) .nilIface) := by
  obtain ⟨code, hcode, hcv⟩ : ∃ code : Int, 0 ≤ code ∧ code < 16 ∧ code ≠ 255 ∧ code = (if v then 1 else 2) := by
    refine ⟨if v then 1 else 2, ?_, ?_, ?_, rfl⟩ <;> cases v <;> decide
  obtain ⟨sv, bf, hbf, ha, ho⟩ := h.arr
  have c5 := ha.head 5 _ rfl
  have c6 := ha.head 6 _ rfl
  have c7 := ha.head 7 _ rfl
  cases hp : s.pend
  · rw [hp] at c7
    have H := Lib.hid (C_byteD p m b T cf s l code hcode (by omega) w h (by omega))
    have HB := Lib.hid (show [b8 code] = [if v then 1 else 2] by rw [hcv.2.2]; cases v <;> rfl)
    simp only [Bool.false_eq_true, if_false]
    obtain ⟨_, _, hcv⟩ := hcv
    clear h ha hbf ho hlim hlast hid c5 c6 hp hcode
    cases v
    all_goals
      simp only [Bool.false_eq_true, if_false, if_true] at hcv
      subst hcv
      go_enter Tryz.func190, Tryz.ntmps190
      go_wp2_with fail
      refine H.out.mono ?_
      rintro e w1 hw
      obtain rfl := hw.1
      rw [HB.out] at hw
      have HW := Lib.hid hw
      clear hw
      go_wp2_with (go_at_call 212; refine (exc_nil _).mono ?_; rintro e w' ⟨rfl, rfl⟩)
      go_ret
      exact HW.out
  · rw [hp] at c7
    have hcall := C_fieldI p m b T cf c (.string s.pnm) s l 2 s.pid code code hcode hcv.1 (Or.inr ⟨hcv.2.1, rfl⟩) hid hlast w.drew h.drew hlim
    have hS : ∀ v e Y, CW w.drew p m b cf s { s with last := s.pid } T l (fieldC s.last code s.pid) v e Y → (Y.cell? ⟨p, 5, none⟩ = some (.string s.pnm) ∧ Y.cell? ⟨p, 6, none⟩ = some (.int .i16 s.pid)) ∧ (∃ u, Y.cell? ⟨p, 7, none⟩ = some u) ∧ Y.frozen? ⟨p, 7, none⟩ = false ∧ CW w p m b cf s { s with last := s.pid, pend := false } T l (fieldC s.last code s.pid) .nilIface (.returned .nilIface) (Y.setCell ⟨p, 7, none⟩ (.bool false)) := fun v e Y hX => by
      obtain ⟨h1, h2, h3, h4⟩ := hX.2.1.setPend false
      obtain ⟨sv', bf', _, ha', _⟩ := hX.2.1.arr
      exact ⟨⟨ha'.head 5 _ rfl, ha'.head 6 _ rfl⟩, h1, h2, rfl, h3, Fr.trans ((Fr.refl _ w).drew) (hX.2.2.trans h4)⟩
    have HB := Lib.hid (show fieldC s.last code s.pid = fieldC s.last (if v then 1 else 2) s.pid by rw [hcv.2.2])
    simp only [if_true]
    obtain ⟨_, _, hcv⟩ := hcv
    obtain ⟨pn, hpn⟩ : ∃ x, x = s.pnm := ⟨_, rfl⟩
    obtain ⟨pi, hpi⟩ : ∃ x, x = s.pid := ⟨_, rfl⟩
    obtain ⟨R, hR⟩ : ∃ R : World → Prop, R = fun Y => CW w p m b cf s { s with last := s.pid, pend := false } T l (fieldC s.last code s.pid) .nilIface (.returned .nilIface) Y := ⟨_, rfl⟩
    have hcall2 : Calls Tryz.prog 223 #[.pointer (some ⟨p, 0, none⟩), c, .string pn, .int .u8 2, .int .i16 pi, .int .u8 code] w.drew (fun e Y => ∃ k : Int, e = .returned (.tuple #[.int .i64 k, .nilIface]) ∧ (Y.cell? ⟨p, 5, none⟩ = some (.string pn) ∧ Y.cell? ⟨p, 6, none⟩ = some (.int .i16 pi)) ∧ (∃ u, Y.cell? ⟨p, 7, none⟩ = some u) ∧ Y.frozen? ⟨p, 7, none⟩ = false ∧ R (Y.setCell ⟨p, 7, none⟩ (.bool false))) := by
      rw [hpn, hpi, hR]
      exact hcall.mono fun e Y ⟨k, hk⟩ => ⟨k, hk.1, hS _ _ _ hk⟩
    have HF := Lib.hid (show ∀ Y, R Y → CW w p m b cf s { s with last := s.pid, pend := false } T l (fieldC s.last (if v then 1 else 2) s.pid) .nilIface (.returned .nilIface) Y from fun Y hY => by
      rw [hR] at hY
      rw [← HB.out]
      exact hY)
    have HC := Lib.hid hcall2
    rw [← hpn] at c5
    rw [← hpi] at c6
    have q0 : w.cell? ⟨p, 5, none⟩ = some (.string pn) ∧ w.cell? ⟨p, 6, none⟩ = some (.int .i16 pi) := ⟨c5, c6⟩
    clear h ha hbf ho hlim hlast hid hp hcode hpn hpi hR hcall hcall2 hS HB c5 c6
    cases v
    all_goals
      simp only [Bool.false_eq_true, if_false, if_true] at hcv
      subst hcv
      go_enter Tryz.func190, Tryz.ntmps190
      go_wp2_with fail
      go_region_held3 (fun w' => w'.cell? ⟨p, 5, none⟩ = some (.string pn) ∧ w'.cell? ⟨p, 6, none⟩ = some (.int .i16 pi)) (first | exact q0 | exact q1) (first | (go_at_call 223; (with_reducible refine HC.out.mono ?_); rintro e Y ⟨k, rfl, q1, hc7, f7, hr⟩; have HR := Lib.hid (HF.out _ hr); clear hr) | fail)
      obtain ⟨u7, c8⟩ := hc7
      clear q0 q1 c7
      go_wp2_with (go_at_call 212; refine (exc_nil _).mono ?_; rintro e w' ⟨rfl, rfl⟩)
      go_ret
      exact HR.out

theorem ownBlock_of {w : World} {sv : Value} {n : Nat} {xs : List Value} (h : w.ownsRow 0 TI 1 sv n xs) {k : Nat} (hk : sv.ownBlock = some k) : (∃ cur, w.heap[k]? = some (.cells cur TI (0, 0))) ∧ ∃ c, sv = .slice (some ⟨k, 0, none⟩) n c := by
  rcases h.2 with ⟨rfl, _⟩ | ⟨g, cap, cur, rfl, _, hg, _⟩
  · cases hk
  · injection hk with hk
    have hk : g = k := hk
    subst hk
    exact ⟨⟨cur, hg⟩, cap, rfl⟩

/-- An id is pushed. -/
theorem CP.push {w X Z : World} {p m b T g cap : Nat} {cf sv : Value} {s : CSt} {z : Bool} {l bf : List UInt8} (h : CP w p m b cf s T z l) (hbf : bf.length = 64) (ha : Arr w p TCP (hdC m cf sv s) bf) (ho : w.ownsRow 0 TI 1 sv s.stack.length (s.stack.map (.int .i64)))
    (hX : Fr noF noF w X) (hown : Z.ownsRow 0 TI 1 (.slice (some ⟨g, 0, none⟩) (s.stack.length + 1) cap) (s.stack.length + 1) (s.stack.map (.int .i64) ++ [.int .i64 s.last])) (hg : X.grownBy Z sv.ownBlock) (hat : sv.ownBlock = some g ∨ g = X.heap.size) :
    (Z.cell? ⟨p, 3, none⟩ = some sv ∧ Z.frozen? ⟨p, 3, none⟩ = false) ∧ ((Z.setCell ⟨p, 3, none⟩ (.slice (some ⟨g, 0, none⟩) (s.stack.length + 1) cap)).cell? ⟨p, 4, none⟩ = some (.int .i64 s.last) ∧ (Z.setCell ⟨p, 3, none⟩ (.slice (some ⟨g, 0, none⟩) (s.stack.length + 1) cap)).frozen? ⟨p, 4, none⟩ = false) ∧
      CP ((Z.setCell ⟨p, 3, none⟩ (.slice (some ⟨g, 0, none⟩) (s.stack.length + 1) cap)).setCell ⟨p, 4, none⟩ (.int .i64 0)) p m b cf { s with stack := s.stack ++ [s.last], last := 0 } T z l ∧ Fr (CPF w p b) (CPF ((Z.setCell ⟨p, 3, none⟩ (.slice (some ⟨g, 0, none⟩) (s.stack.length + 1) cap)).setCell ⟨p, 4, none⟩ (.int .i64 0)) p b) w ((Z.setCell ⟨p, 3, none⟩ (.slice (some ⟨g, 0, none⟩) (s.stack.length + 1) cap)).setCell ⟨p, 4, none⟩ (.int .i64 0)) := by
  obtain ⟨_, ⟨sz, hm⟩, hB⟩ := h
  have hst : ∀ k, k < w.heap.size → sv.ownBlock ≠ some k → Z.heap[k]? = w.heap[k]? := fun k hk hn => (hg.block k (Nat.lt_of_lt_of_le hk hX.size) fun e => hn e.symm).trans (hX.keep k hk fun x => x)
  have htag : ∀ {k : Nat} {cs : Array Value} {t : TypeId} {f : Nat × Nat}, w.heap[k]? = some (.cells cs t f) → t ≠ TI → Z.heap[k]? = some (.cells cs t f) := fun {k cs t f} hk ht => (hst k (lt_heap hk) fun e => by
    obtain ⟨⟨cur, hc⟩, _⟩ := ownBlock_of ho e
    exact tag_ne hk hc ht rfl).trans hk
  have hap : Arr Z p TCP (hdC m cf sv s) bf := htag ha (by decide)
  have hbk : ∀ k, BF w b k → Z.heap[k]? = w.heap[k]? := fun k hk => by
    obtain ⟨cs, t, h1, h2⟩ := hB.tag hk
    rw [htag h1 (by rcases h2 with rfl | rfl <;> decide), h1]
  have hgZ : ∃ cur, Z.heap[g]? = some (.cells cur TI (0, 0)) := (ownBlock_of hown (k := g) rfl).1
  have hgp : g ≠ p := by
    obtain ⟨cur, hc⟩ := hgZ
    exact tag_ne hc hap (by decide)
  have ha3 := hap.setHead 3 (by simp [hdC]) (.slice (some ⟨g, 0, none⟩) (s.stack.length + 1) cap)
  have ha4 := ha3.setHead 4 (by simp [hdC]) (.int .i64 0)
  obtain ⟨W3, hW3⟩ : ∃ W3, W3 = Z.setCell ⟨p, 3, none⟩ (.slice (some ⟨g, 0, none⟩) (s.stack.length + 1) cap) := ⟨_, rfl⟩
  rw [← hW3] at ha3 ha4 ⊢
  obtain ⟨W4, hW4⟩ : ∃ W4, W4 = W3.setCell ⟨p, 4, none⟩ (.int .i64 0) := ⟨_, rfl⟩
  rw [← hW4] at ha4 ⊢
  have hne : ∀ k, k ≠ p → W4.heap[k]? = Z.heap[k]? := fun k hk => by
    rw [hW4, hW3]
    exact (Below.heap_setCell _ _ _ _ hk).trans (Below.heap_setCell _ _ _ _ hk)
  have hsz4 : W4.heap.size = Z.heap.size := by rw [hW4, hW3, setCell_size, setCell_size]
  have hbp : ∀ k, BF w b k → k ≠ p := fun k hk e => (hB.other ha (by decide) (by decide)) (e ▸ hk)
  have hmp : m ≠ p := tag_ne hm ha (by decide)
  have hCP : CP W4 p m b cf { s with stack := s.stack ++ [s.last], last := 0 } T z l := by
    refine ⟨⟨_, bf, hbf, ha4, ?_⟩, ⟨sz, (hne m hmp).trans (htag hm (by decide))⟩, hB.same fun k hk => (hne k (hbp k hk)).trans (hbk k hk)⟩
    have := owns_same (w' := W4) hown fun k hk => by
      injection hk with hk
      have hk : g = k := hk
      subst hk
      exact hne g hgp
    simpa using this
  refine ⟨⟨hap.head 3 _ rfl, hap.free 3⟩, ⟨ha3.head 4 _ rfl, ha3.free 4⟩, hCP, hW4 ▸ hW3 ▸ hg.os.trans hX.os, hW4 ▸ hW3 ▸ hg.tape.trans hX.tape, hW4 ▸ hW3 ▸ hg.output.trans hX.output, by rw [hsz4]; exact Nat.le_trans hX.size hg.size, fun k hk hn => ?_, fun k hk hx => ?_⟩
  · have h1 : k ≠ p := fun e => hn (Or.inl e)
    refine (hne k h1).trans (hst k hk fun e => hn (Or.inr (Or.inr ?_)))
    obtain ⟨_, c, hc⟩ := ownBlock_of ho e
    exact ⟨_, c, hc ▸ ha.head 3 _ rfl⟩
  · rcases hx with rfl | hx | ⟨n, c, hx⟩
    · exact Or.inl rfl
    · exact Or.inr (Or.inl ((BF.of_same ((hne b (hbp b (Or.inl rfl))).trans (hbk b (Or.inl rfl)))).1 hx))
    · rw [ha4.head 3 _ rfl] at hx
      injection hx with hx
      injection hx with e1 e2 e3
      injection e1 with e1
      injection e1 with e1
      subst e1
      rcases hat with hat | hat
      · obtain ⟨_, c, hc⟩ := ownBlock_of ho hat
        exact Or.inr (Or.inr ⟨_, c, hc ▸ ha.head 3 _ rfl⟩)
      · have := hX.size; omega

theorem info_TI : (Tryz.prog.info? TI).map (fun i => (i.zero, i.size, i.bytes)) = some (some (.int .i64 0), 1, 8) := by kernel_rfl
theorem C_WriteStructBegin (p m b T : Nat) (cf c nm : Value) (s : CSt) (l : List UInt8) (w : World) (h : CP w p m b cf s T true l) (hn : s.stack.length + 1 ≤ LIM) :
    Calls Tryz.prog 208 #[.pointer (some ⟨p, 0, none⟩), c, nm] w (CW w p m b cf s { s with stack := s.stack ++ [s.last], last := 0 } T l [] .nilIface) := by
  obtain ⟨sv, bf, hbf, ha, ho⟩ := h.arr
  obtain ⟨i0, hi, hz0, hz1, hz2⟩ := info_parts info_TI
  have HI := Lib.hid (And.intro hi (And.intro hz0 (And.intro hz1 hz2)))
  have c3 := ha.head 3 _ rfl
  have c4 := ha.head 4 _ rfl
  have hfW := fun q => ((Fr.refl noF w).alloc (.cells #[.int .i64 s.last] TI (0, 0))).drewN q
  have HP := Lib.hid (fun X Z g cap hX hown hg hat => h.push hbf ha ho hX hown hg hat (X := X) (Z := Z) (g := g) (cap := cap))
  have HO := Lib.hid ho
  have HL := Lib.hid (show s.stack.length + 1 ≤ maxLen ∧ (s.stack.length + 1) * 8 ≤ 140737488355328 by unfold LIM at hn; unfold maxLen; omega)
  have k3 : (w.alloc (.cells #[.int .i64 s.last] TI (0, 0))).cell? ⟨p, 3, none⟩ = some sv := by rw [cell_at (alloc_at ha)]; rfl
  clear h hi hz0 hz1 hz2 hbf ha ho hn
  go_enter Tryz.func208, Tryz.ntmps208
  go_wp2_with fail
  go_region_law (first | ((refine step_append_lies _ (by rfl) _ _ _ (by rfl) 0 TI i0 (.int .i64 0) 1 8 Tryz.underlying37 HI.out.1 HI.out.2.1 HI.out.2.2.1 HI.out.2.2.2 rfl (by decide) sv s.stack.length (s.stack.map (.int .i64)) (by rfl) (World.ownsRow.alloc HO.out _) ⟨w.heap.size, 0, none⟩ 1 1 [.int .i64 s.last] (by rfl) (by rfl) (app_cell w _ _) (app_one rfl) (by decide) HL.out.1 HL.out.2 (Nat.zero_le _) _ rfl ?_); intro g cap Z hown hgrow hat hlt; have hz := HP.out _ Z g cap (((Fr.refl noF w).alloc _).drew) hown hgrow (by simpa using hat); obtain ⟨⟨z3, f3⟩, ⟨z4, f4⟩, hfin⟩ := hz; have HX := Lib.hid hfin; clear hown hgrow hat hlt hfin) | fail)
  all_goals go_wp2
  all_goals go_ret
  all_goals exact ⟨rfl, by simpa using HX.out.1, HX.out.2⟩

/-- An id is popped: the last id, then the row. -/
theorem CP.pop {w : World} {p m b T : Nat} {cf sv : Value} {s : CSt} {z : Bool} {l bf : List UInt8} (h : CP w p m b cf s T z l) (hbf : bf.length = 64) (ha : Arr w p TCP (hdC m cf sv s) bf) (ho : w.ownsRow 0 TI 1 sv s.stack.length (s.stack.map (.int .i64))) (n : Nat) (hn : s.stack.length = n + 1) :
    ∃ g cap x, sv = .slice (some ⟨g, 0, none⟩) (n + 1) cap ∧ s.stack.getLastD 0 = x ∧ n + 1 ≤ cap ∧ cap ≤ maxLen ∧ w.cell? ⟨g, n, none⟩ = some (.int .i64 x) ∧
      (CP ((w.setCell ⟨p, 4, none⟩ (.int .i64 x)).setCell ⟨p, 3, none⟩ (.slice (some ⟨g, 0, none⟩) n cap)) p m b cf { s with stack := s.stack.dropLast, last := x } T z l ∧ Fr (CPF w p b) (CPF ((w.setCell ⟨p, 4, none⟩ (.int .i64 x)).setCell ⟨p, 3, none⟩ (.slice (some ⟨g, 0, none⟩) n cap)) p b) w ((w.setCell ⟨p, 4, none⟩ (.int .i64 x)).setCell ⟨p, 3, none⟩ (.slice (some ⟨g, 0, none⟩) n cap))) := by
  rcases ho.2 with ⟨_, h0⟩ | ⟨g, cap, cur, hsv, hb, hgg, hle, hmx, hsz, htk⟩
  · omega
  rw [hn] at hsv
  subst hsv
  have hx : s.stack[n]? = some (s.stack.getLastD 0) := by
    obtain ⟨x, hx⟩ : ∃ x, s.stack[n]? = some x := ⟨_, List.getElem?_eq_getElem (by omega)⟩
    have hl : s.stack.getLast? = some x := by rw [List.getLast?_eq_getElem?, show s.stack.length - 1 = n by omega]; exact hx
    rw [hx, List.getLastD_eq_getLast?, hl]
    rfl
  have hcx : cur[n]? = some (.int .i64 (s.stack.getLastD 0)) := by
    have h1 : (cur.toList.take (s.stack.length * 1))[n]? = (s.stack.map (Value.int .i64))[n]? := by rw [htk]
    rw [List.getElem?_take_of_lt (by omega), List.getElem?_map, hx] at h1
    simpa using h1
  obtain ⟨_, ⟨sz, hm⟩, hB⟩ := h
  have hgp : g ≠ p := tag_ne hgg ha (by decide)
  have hmp : m ≠ p := tag_ne hm ha (by decide)
  have hbp : ∀ k, BF w b k → k ≠ p := fun k hk e => (hB.other ha (by decide) (by decide)) (e ▸ hk)
  have ha4 := (ha.setHead 4 (by simp [hdC]) (.int .i64 (s.stack.getLastD 0))).setHead 3 (by simp [hdC]) (.slice (some ⟨g, 0, none⟩) n cap)
  refine ⟨g, cap, _, rfl, rfl, by omega, hmx, by rw [cell_at hgg]; exact hcx, ?_⟩
  obtain ⟨W4, hW4⟩ : ∃ W4, W4 = (w.setCell ⟨p, 4, none⟩ (.int .i64 (s.stack.getLastD 0))).setCell ⟨p, 3, none⟩ (.slice (some ⟨g, 0, none⟩) n cap) := ⟨_, rfl⟩
  rw [← hW4] at ha4 ⊢
  have hne : ∀ k, k ≠ p → W4.heap[k]? = w.heap[k]? := fun k hk => by
    rw [hW4]
    exact (Below.heap_setCell _ _ _ _ hk).trans (Below.heap_setCell _ _ _ _ hk)
  have hsz4 : W4.heap.size = w.heap.size := by rw [hW4, setCell_size, setCell_size]
  refine ⟨⟨⟨_, bf, hbf, ha4, ?_⟩, ⟨sz, (hne m hmp).trans hm⟩, hB.same fun k hk => hne k (hbp k hk)⟩, hW4 ▸ rfl, hW4 ▸ rfl, hW4 ▸ rfl, by rw [hsz4]; exact Nat.le_refl _, fun k hk hn' => hne k fun e => hn' (Or.inl e), fun k hk hx => ?_⟩
  · have hl : s.stack.dropLast.length = n := by rw [List.length_dropLast, hn]; rfl
    refine ⟨by simp, Or.inr ⟨g, cap, cur, by rw [hl], hb, (hne g hgp).trans hgg, by show s.stack.dropLast.length ≤ cap; omega, hmx, hsz, ?_⟩⟩
    show cur.toList.take (s.stack.dropLast.length * 1) = _
    rw [hl]
    have : cur.toList.take (n * 1) = (cur.toList.take (s.stack.length * 1)).take n := by rw [List.take_take, Nat.mul_one, Nat.mul_one, hn, Nat.min_eq_left (by omega)]
    rw [this, htk, ← List.map_take, List.dropLast_eq_take, hn]
    rfl
  · rcases hx with rfl | hx | ⟨n', c', hx⟩
    · exact Or.inl rfl
    · exact Or.inr (Or.inl ((BF.of_same (hne b (hbp b (Or.inl rfl)))).1 hx))
    · rw [ha4.head 3 _ rfl] at hx
      injection hx with hx
      injection hx with e1 e2 e3
      injection e1 with e1
      injection e1 with e1
      subst e1
      exact Or.inr (Or.inr ⟨_, _, ha.head 3 _ rfl⟩)

theorem C_WriteStructEnd (p m b T : Nat) (cf c : Value) (s : CSt) (l : List UInt8) (w : World) (h : CP w p m b cf s T true l) (hs : s.stack ≠ []) (hsl : s.stack.length ≤ LIM) :
    Calls Tryz.prog 209 #[.pointer (some ⟨p, 0, none⟩), c] w (CW w p m b cf s { s with stack := s.stack.dropLast, last := s.stack.getLastD 0 } T l [] .nilIface) := by
  obtain ⟨sv, bf, hbf, ha, ho⟩ := h.arr
  obtain ⟨n, hn⟩ : ∃ n, s.stack.length = n + 1 := ⟨s.stack.length - 1, by have := List.length_pos_iff.2 hs; omega⟩
  obtain ⟨g, cap, x, hsv, hx, hle, hmx, hcx, hP, hF⟩ := h.pop hbf ha ho n hn
  subst hsv
  have c3 := ha.head 3 _ rfl
  have c4 := ha.head 4 _ rfl
  have ff := ha.free
  have ha4 := ha.setHead 4 (by simp [hdC]) (.int .i64 x)
  have hgp : g ≠ p := by
    obtain ⟨⟨cur, hc⟩, _⟩ := ownBlock_of ho (k := g) rfl
    exact tag_ne hc ha (by decide)
  have d3 : (w.setCell ⟨p, 4, none⟩ (.int .i64 x)).cell? ⟨p, 3, none⟩ = some (.slice (some ⟨g, 0, none⟩) (n + 1) cap) := ha4.head 3 _ rfl
  have hcy : (w.setCell ⟨p, 4, none⟩ (.int .i64 x)).cell? ⟨g, n, none⟩ = some (.int .i64 x) := by
    rw [World.cell?_of_block (a := ⟨g, n, none⟩) (Below.heap_setCell w ⟨p, 4, none⟩ _ g hgp)]
    exact hcx
  have dff : ∀ j, (w.setCell ⟨p, 4, none⟩ (.int .i64 x)).frozen? ⟨p, j, none⟩ = false := ha4.free
  rw [hx]
  have HX := Lib.hid (And.intro hP hF)
  have hn0 : (n : Int) ≤ 9000000000000000000 := by unfold LIM at hsl; omega
  have hwn : IntKind.i64.wrap (n : Int) = (n : Int) := by rw [IntKind.wrap_i64]; omega
  have hwm : IntKind.i64.wrap ((n : Int) + 1 - 1) = (n : Int) := by rw [IntKind.wrap_i64]; omega
  have hlt : (n : Int) < (n : Int) + 1 := by omega
  have hlc : (n : Int) ≤ (cap : Int) := by omega
  have hn1 : (0 : Int) ≤ (n : Int) := by omega
  clear h ha ho hbf hs hn hle hmx hx hP hF ha4 hgp hsl
  go_enter Tryz.func209, Tryz.ntmps209
  go_wp2_with fail
  go_region_held3 (fun w' => w'.cell? ⟨p, 3, none⟩ = some (.slice (some ⟨g, 0, none⟩) (n + 1) cap) ∧ w'.cell? ⟨g, n, none⟩ = some (.int .i64 x)) (first | exact ⟨c3, hcx⟩ | exact ⟨d3, hcy⟩) (first | fail)
  go_wp2_with fail
  go_region_law (fail)
  all_goals go_wp2
  all_goals go_ret
  all_goals trace_state
  all_goals exact ⟨rfl, by simpa using HX.out.1.drew.drew, HX.out.2.drew.drew⟩
end Go.Proofs.YtoikkjefaakchaaGreatDoor
