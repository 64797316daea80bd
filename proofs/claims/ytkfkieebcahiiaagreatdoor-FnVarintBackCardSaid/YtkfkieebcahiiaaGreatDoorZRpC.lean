/- The compact protocol over a memory buffer, as a protocol that is read from: the calls that take nothing. Printed by gen_rpc.py. -/
import Derived.Test.YtkfkieebcahiiaaGreatDoorZE
import Derived.Test.YtkfkieebcahiiaaGreatDoorZRp
set_option linter.all false
namespace Go.Proofs.YtkfkieebcahiiaaGreatDoor
open Go Go.RowKit
set_option maxHeartbeats 1000000
set_option maxRecDepth 100000
set_option linter.all false

/-- What a reading method leaves that takes nothing. -/
def CV (w : World) (p m b : Nat) (cf : Value) (s' : CSt) (T : Nat) (z : Bool) (l : List UInt8) (v : Value) (e : Ending) (w' : World) : Prop :=
  e = .returned v ∧ CP w' p m b cf s' T z l ∧ Fr (CPF w p b) (CPF w' p b) w w'
theorem C_ReadMessageEnd (p c : Value) (w : World) : Calls Tryz.prog 168 #[p, c] w fun e w' => e = .returned .nilIface ∧ w = w' := by
  go_enter Tryz.func168, Tryz.ntmps168
  go_wp2
  go_ret
  exact ⟨rfl, rfl⟩
theorem C_ReadFieldEnd (p c : Value) (w : World) : Calls Tryz.prog 159 #[p, c] w fun e w' => e = .returned .nilIface ∧ w = w' := by
  go_enter Tryz.func159, Tryz.ntmps159
  go_wp2
  go_ret
  exact ⟨rfl, rfl⟩
theorem C_ReadMapEnd (p c : Value) (w : World) : Calls Tryz.prog 166 #[p, c] w fun e w' => e = .returned .nilIface ∧ w = w' := by
  go_enter Tryz.func166, Tryz.ntmps166
  go_wp2
  go_ret
  exact ⟨rfl, rfl⟩
theorem C_ReadListEnd (p c : Value) (w : World) : Calls Tryz.prog 164 #[p, c] w fun e w' => e = .returned .nilIface ∧ w = w' := by
  go_enter Tryz.func164, Tryz.ntmps164
  go_wp2
  go_ret
  exact ⟨rfl, rfl⟩
theorem C_ReadSetEnd (p c : Value) (w : World) : Calls Tryz.prog 170 #[p, c] w fun e w' => e = .returned .nilIface ∧ w = w' := by
  go_enter Tryz.func170, Tryz.ntmps170
  go_wp2
  go_ret
  exact ⟨rfl, rfl⟩
theorem C_ReadStructBegin (p m b T : Nat) (cf c : Value) (s : CSt) (l : List UInt8) (w : World) (z : Bool) (h : CP w p m b cf s T z l) (hn : s.stack.length + 1 ≤ LIM) :
    Calls Tryz.prog 172 #[.pointer (some ⟨p, 0, none⟩), c] w (CV w p m b cf { s with stack := s.stack ++ [s.last], last := 0 } T z l (.tuple #[.string ⟨#[]⟩, .nilIface])) := by
  obtain ⟨sv, bf, hbf, ha, ho⟩ := h.arr
  obtain ⟨i0, hi, hz0, hz1, hz2⟩ := info_parts info_TI
  have HI := Lib.hid (And.intro hi (And.intro hz0 (And.intro hz1 hz2)))
  have c3 := ha.head 3 _ rfl
  have c4 := ha.head 4 _ rfl
  have hfW := fun q => ((Fr.refl noF w).alloc (.cells #[.int .i64 s.last] TI (0, 0))).drewN q
  have HP := Lib.hid (fun X Z g cap hX hown hg hat => h.push hbf ha ho hX hown hg hat (X := X) (Z := Z) (g := g) (cap := cap))
  have HO := Lib.hid ho
  have HL := Lib.hid (show s.stack.length + 1 ≤ maxLen ∧ (s.stack.length + 1) * 8 ≤ 140737488355328 by unfold LIM at hn; unfold maxLen; omega)
  have k3 : (w.alloc (.cells #[.int .i64 s.last] TI (0, 0))).cell? ⟨p, 3, none⟩ = some sv := by rw [cell_at (alloc_at ha)]; rfl
  clear h hi hz0 hz1 hz2 hbf ha ho hn
  go_enter Tryz.func172, Tryz.ntmps172
  go_wp2_with fail
  go_region_law (first | ((refine step_append_lies _ (by rfl) _ _ _ (by rfl) 0 TI i0 (.int .i64 0) 1 8 Tryz.underlying25 HI.out.1 HI.out.2.1 HI.out.2.2.1 HI.out.2.2.2 rfl (by decide) sv s.stack.length (s.stack.map (.int .i64)) (by rfl) (World.ownsRow.alloc HO.out _) ⟨w.heap.size, 0, none⟩ 1 1 [.int .i64 s.last] (by rfl) (by rfl) (app_cell w _ _) (app_one rfl) (by decide) HL.out.1 HL.out.2 (Nat.zero_le _) _ rfl ?_); intro g cap Z hown hgrow hat hlt; have hz := HP.out _ Z g cap (((Fr.refl noF w).alloc _).drew) hown hgrow (by simpa using hat); obtain ⟨⟨z3, f3⟩, ⟨z4, f4⟩, hfin⟩ := hz; have HX := Lib.hid hfin; clear hown hgrow hat hlt hfin) | fail)
  all_goals go_wp2
  all_goals go_ret2
  all_goals exact ⟨rfl, by simpa using HX.out.1, HX.out.2⟩

theorem C_ReadStructEnd (p m b T : Nat) (cf c : Value) (s : CSt) (l : List UInt8) (w : World) (z : Bool) (h : CP w p m b cf s T z l) (hs : s.stack ≠ []) (hsl : s.stack.length ≤ LIM) :
    Calls Tryz.prog 173 #[.pointer (some ⟨p, 0, none⟩), c] w (CV w p m b cf { s with stack := s.stack.dropLast, last := s.stack.getLastD 0 } T z l .nilIface) := by
  obtain ⟨sv, bf, hbf, ha, ho⟩ := h.arr
  obtain ⟨n, hn⟩ : ∃ n, s.stack.length = n + 1 := ⟨s.stack.length - 1, by have := List.length_pos_iff.2 hs; omega⟩
  obtain ⟨g, cap, x, hsv, hx, hle, hmx, hcx, hP, hF⟩ := h.pop hbf ha ho n hn
  subst hsv
  have c3 := ha.head 3 _ rfl
  have c4 := ha.head 4 _ rfl
  have ff := ha.free
  have ha4 := ha.setHead 4 (by simp [hdC]) (.int .i64 x)
  have hgp : g ≠ p := by
    obtain ⟨⟨cur, hc⟩, _⟩ := ownBlock_of ho (k := g) rfl
    exact tag_ne hc ha (by decide)
  have d3 : (w.setCell ⟨p, 4, none⟩ (.int .i64 x)).cell? ⟨p, 3, none⟩ = some (.slice (some ⟨g, 0, none⟩) (n + 1) cap) := ha4.head 3 _ rfl
  have hcy : (w.setCell ⟨p, 4, none⟩ (.int .i64 x)).cell? ⟨g, n, none⟩ = some (.int .i64 x) := by
    rw [World.cell?_of_block (a := ⟨g, n, none⟩) (Below.heap_setCell w ⟨p, 4, none⟩ _ g hgp)]
    exact hcx
  have dff : ∀ j, (w.setCell ⟨p, 4, none⟩ (.int .i64 x)).frozen? ⟨p, j, none⟩ = false := ha4.free
  rw [hx]
  have HX := Lib.hid (And.intro hP hF)
  have hn0 : (n : Int) ≤ 9000000000000000000 := by unfold LIM at hsl; omega
  have hwn : IntKind.i64.wrap (n : Int) = (n : Int) := by rw [IntKind.wrap_i64]; omega
  have hwm : IntKind.i64.wrap ((n : Int) + 1 - 1) = (n : Int) := by rw [IntKind.wrap_i64]; omega
  have hlt : (n : Int) < (n : Int) + 1 := by omega
  have hlc : (n : Int) ≤ (cap : Int) := by omega
  have hn1 : (0 : Int) ≤ (n : Int) := by omega
  clear h ha ho hbf hs hn hle hmx hx hP hF ha4 hgp hsl
  go_enter Tryz.func173, Tryz.ntmps173
  go_wp2_with fail
  go_region_held3 (fun w' => w'.cell? ⟨p, 3, none⟩ = some (.slice (some ⟨g, 0, none⟩) (n + 1) cap) ∧ w'.cell? ⟨g, n, none⟩ = some (.int .i64 x)) (first | exact ⟨c3, hcx⟩ | exact ⟨d3, hcy⟩) (first | fail)
  go_wp2_with fail
  go_region_law (fail)
  all_goals go_wp2
  all_goals go_ret
  all_goals exact ⟨rfl, by simpa using HX.out.1.drew.drew, HX.out.2.drew.drew⟩

/-- Reading calls that take nothing. -/
noncomputable def cnext (s : List UInt8 × CSt) : ROp → Option (Int × RVal × (List UInt8 × CSt))
  | .msgEnd | .fieldEnd | .mapEnd | .listEnd | .setEnd => some (0, {}, s)
  | .structBegin => if s.2.stack.length + 1 ≤ 1000 then some (0, {}, (s.1, { s.2 with stack := s.2.stack ++ [s.2.last], last := 0 })) else none
  | .structEnd => if 0 < s.2.stack.length ∧ s.2.stack.length ≤ 1000 then some (0, {}, (s.1, { s.2 with stack := s.2.stack.dropLast, last := s.2.stack.getLastD 0 })) else none
  | _ => none
noncomputable def protoRC (p m b T : Nat) (cf : Value) (c : ConfV) : RProto (List UInt8 × CSt) where
  T := PCP
  recv := .pointer (some ⟨p, 0, none⟩)
  fn n := match n with
    | "ReadMessageBegin" => 167 | "ReadMessageEnd" => 168 | "ReadStructBegin" => 172 | "ReadStructEnd" => 173
    | "ReadFieldBegin" => 158 | "ReadFieldEnd" => 159 | "ReadMapBegin" => 165 | "ReadMapEnd" => 166
    | "ReadListBegin" => 163 | "ReadListEnd" => 164 | "ReadSetBegin" => 169 | "ReadSetEnd" => 170
    | "ReadBool" => 155 | "ReadByte" => 156 | "ReadI16" => 160 | "ReadI32" => 161 | "ReadI64" => 162 | "ReadDouble" => 157
    | "ReadString" => 171 | "ReadBinary" => 154 | "ReadUUID" => 174
    | _ => 0
  I w s := (∃ z, CP w p m b cf s.2 T z s.1) ∧ Cfg w cf c
  F w k := CAll w p m b cf k
  next s op := cnext s op

theorem protoRC_ok (p m b T : Nat) (cf : Value) (c : ConfV) : (protoRC p m b T cf c).Ok where
  meth op w := by cases op <;> kernel_rfl
  ahead op w := by cases op <;> kernel_rfl
  enter op xs w := by cases op <;> kernel_rfl
  call op w s r h hr := by
    obtain ⟨l, st⟩ := s
    obtain ⟨⟨z, hB⟩, hC⟩ := h
    dsimp only at hB
    have fin : ∀ {e : Ending} {w' : World} (st' : CSt) (rv : Value), r = (0, ({} : RVal), (l, st')) → rv = op.ret ({} : RVal) .nilIface .nilIface → (op.fits w' ({} : RVal) .nilIface) → CV w p m b cf st' T z l rv e w' →
        ∃ x v ev s', e = .returned (op.ret x v ev) ∧ RX (protoRC p m b T cf c) w r op x v ev s' w' := fun {e w'} st' rv hr hv hf hw => by
      obtain ⟨h1, h2⟩ := hB.all hC hw.2.2
      exact ⟨{}, .nilIface, .nilIface, (l, st'), by rw [hw.1, hv], fun _ => by rw [hr]; exact ⟨rfl, rfl⟩, by rw [hr]; exact ErrV.nil _, ⟨⟨z, hw.2.1⟩, h1⟩, h2, by decide, hf⟩
    have fin0 : ∀ {e : Ending} {w' : World} (rv : Value), r = (0, ({} : RVal), (l, st)) → rv = op.ret ({} : RVal) .nilIface .nilIface → (op.fits w' ({} : RVal) .nilIface) → (e = .returned rv ∧ w = w') → ∃ x v ev s', e = .returned (op.ret x v ev) ∧ RX (protoRC p m b T cf c) w r op x v ev s' w' := fun {e w'} rv hr hv hf hw => by
      obtain ⟨rfl, rfl⟩ := hw
      exact fin st rv hr hv hf ⟨rfl, hB, Fr.refl _ _⟩
    have hr' : cnext (l, st) op = some r := hr
    clear hr
    cases op with
    | msgEnd => exact (C_ReadMessageEnd _ _ w).mono fun _ _ hw => fin0 _ (by simpa [cnext] using hr'.symm) rfl trivial hw
    | fieldEnd => exact (C_ReadFieldEnd _ _ w).mono fun _ _ hw => fin0 _ (by simpa [cnext] using hr'.symm) rfl trivial hw
    | mapEnd => exact (C_ReadMapEnd _ _ w).mono fun _ _ hw => fin0 _ (by simpa [cnext] using hr'.symm) rfl trivial hw
    | listEnd => exact (C_ReadListEnd _ _ w).mono fun _ _ hw => fin0 _ (by simpa [cnext] using hr'.symm) rfl trivial hw
    | setEnd => exact (C_ReadSetEnd _ _ w).mono fun _ _ hw => fin0 _ (by simpa [cnext] using hr'.symm) rfl trivial hw
    | structBegin =>
      simp only [cnext] at hr'
      split at hr'
      · rename_i hs
        injection hr' with hr'
        exact (C_ReadStructBegin p m b T cf _ st l w z hB (by unfold LIM; omega)).mono fun _ _ hw => fin _ _ hr'.symm rfl trivial hw
      · cases hr'
    | structEnd =>
      simp only [cnext] at hr'
      split at hr'
      · rename_i hs
        injection hr' with hr'
        exact (C_ReadStructEnd p m b T cf _ st l w z hB (List.length_pos_iff.1 hs.1) (by unfold LIM; omega)).mono fun _ _ hw => fin _ _ hr'.symm rfl trivial hw
      · cases hr'
    | _ => simp [cnext] at hr'
  keep h hf hn := by
    obtain ⟨⟨z, hB⟩, hC⟩ := h
    obtain ⟨h1, h2⟩ := hB.old hf (hn _ (Or.inr (Or.inl rfl))) fun k hk => hn k (Or.inl hk)
    obtain ⟨h3, h4⟩ := hC.same fun k hk => by
      obtain ⟨cs, t, hb, _⟩ := hC.tagged hk
      exact hf.keep k (lt_heap hb) (hn k (Or.inr (Or.inr hk)))
    refine ⟨⟨⟨z, h1⟩, h3⟩, fun k hk => ?_⟩
    rcases hk with hk | hk | hk
    · exact Or.inl (h2 k hk)
    · exact Or.inr (Or.inl hk)
    · exact Or.inr (Or.inr (h4 k hk))
  lt h hk := by
    obtain ⟨⟨z, hB⟩, hC⟩ := h
    rcases hk with hk | rfl | hk
    · exact CPF.lt hB hk
    · obtain ⟨sz, hm⟩ := hB.mem; exact lt_heap hm
    · obtain ⟨cs, t, hb, _⟩ := hC.tagged hk; exact lt_heap hb
end Go.Proofs.YtkfkieebcahiiaaGreatDoor
