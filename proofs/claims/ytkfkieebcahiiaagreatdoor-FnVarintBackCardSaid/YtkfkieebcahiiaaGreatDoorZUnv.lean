/- impl.Unvarint: a number is read of its bytes, or the end is told. -/
import Derived.Deep.RegionHeld3
import Derived.OwnWalk
import Derived.Test.YtkfkieebcahiiaaGreatDoorZCr
import Derived.Test.YtkfkieebcahiiaaGreatDoorZVarI
import Derived.Test.YtkfkieebcahiiaaGreatDoorZ3
import Derived.Test.YtkfkieebcahiiaaGreatDoorZFrg
set_option linter.all false
namespace Go.Proofs.YtkfkieebcahiiaaGreatDoor
open Go Go.RowKit
set_option maxHeartbeats 2000000
set_option maxRecDepth 100000
set_option linter.all false

/-- What reading a varint leaves. -/
def UR (w : World) (p m b T : Nat) (cf : Value) (st : CSt) (rest : List UInt8) (v : Value) (e : Ending) (w' : World) : Prop := ∃ z, e = .returned v ∧ CP w' p m b cf st T z rest ∧ Fr (CPF w p b) (CPF w' p b) w w'
theorem CV.ur {w : World} {p m b T : Nat} {cf v : Value} {st : CSt} {z : Bool} {l : List UInt8} {e : Ending} {w' : World} (h : CV w p m b cf st T z l v e w') : UR w p m b T cf st l v e w' := ⟨z, h.1, h.2.1, h.2.2⟩

theorem DoorU64 (p m b T : Nat) (cf : Value) (st : CSt) (rest : List UInt8) (res : Int) (ev : Value) (w : World) (h : Calls Tryz.prog 94 #[.pointer (some ⟨p, 0, none⟩)] w (UR w p m b T cf st rest (.tuple #[.int .i64 res, ev]))) :
    Calls Tryz.prog 68 #[.pointer (some ⟨p, 0, none⟩)] w (UR w p m b T cf st rest (.tuple #[.int .i64 res, ev])) := by
  have H := Lib.hid h
  clear h
  go_enter Tryz.func68, Tryz.ntmps68
  go_wp2_with fail
  (with_reducible refine H.out.mono ?_)
  rintro e w' ⟨z, rfl, hc, hf⟩
  have HR := Lib.hid (And.intro hc hf)
  clear hc hf
  go_wp2
  go_ret2
  exact ⟨z, rfl, HR.out.1, HR.out.2⟩
theorem C_readVarint32 (p m b T : Nat) (cf : Value) (st : CSt) (rest : List UInt8) (res : Int) (ev : Value) (w : World) (h : Calls Tryz.prog 94 #[.pointer (some ⟨p, 0, none⟩)] w (UR w p m b T cf st rest (.tuple #[.int .i64 res, ev]))) :
    Calls Tryz.prog 95 #[.pointer (some ⟨p, 0, none⟩)] w (UR w p m b T cf st rest (.tuple #[.int .i32 (wrap32 res), ev])) := by
  have H := Lib.hid h
  clear h
  go_enter Tryz.func95, Tryz.ntmps95
  go_wp2_with fail
  (with_reducible refine H.out.mono ?_)
  rintro e w' ⟨z, rfl, hc, hf⟩
  have HR := Lib.hid (And.intro hc hf)
  clear hc hf
  go_wp2
  go_ret2
  exact ⟨z, rfl, HR.out.1, HR.out.2⟩
theorem DoorU32 (p m b T : Nat) (cf : Value) (st : CSt) (rest : List UInt8) (res : Int) (ev : Value) (w : World) (h : Calls Tryz.prog 95 #[.pointer (some ⟨p, 0, none⟩)] w (UR w p m b T cf st rest (.tuple #[.int .i32 res, ev]))) :
    Calls Tryz.prog 69 #[.pointer (some ⟨p, 0, none⟩)] w (UR w p m b T cf st rest (.tuple #[.int .i32 res, ev])) := by
  have H := Lib.hid h
  clear h
  go_enter Tryz.func69, Tryz.ntmps69
  go_wp2_with fail
  (with_reducible refine H.out.mono ?_)
  rintro e w' ⟨z, rfl, hc, hf⟩
  have HR := Lib.hid (And.intro hc hf)
  clear hc hf
  go_wp2
  go_ret2
  exact ⟨z, rfl, HR.out.1, HR.out.2⟩

theorem I_Unvarint (long : Bool) (v : Value) (l rest : List UInt8) (res kk : Int) (ev : Value) (w : World) (hv : Rd w v l) (hl : l.length ≤ LIM) (hres : -9223372036854775808 ≤ res ∧ res < 9223372036854775808)
    (hread : ∀ p m b w2, CP w2 p m b (.pointer none) CSt.new l.length true l → Fr noF (CPF w2 p b) w w2 → Calls Tryz.prog 94 #[.pointer (some ⟨p, 0, none⟩)] w2 (UR w2 p m b l.length (.pointer none) CSt.new rest (.tuple #[.int .i64 res, ev])))
    (hkind : ∀ X, Fr noF noF w X → Calls Tryz.prog 48 #[ev] X fun e w' => e = .returned (.int .i64 kk) ∧ X = w') :
    Calls Tryz.prog 40 #[v, .bool long] w fun e w' => e = .returned (.tuple #[.int .i64 (if long then res else wrap32 res), .int .i64 kk, .int .i64 rest.length]) ∧ Fr noF noF w w' := by
  obtain ⟨va, vn, vc, rfl, -⟩ := hv.len
  have h1 := I_holding (.slice va vn vc) l w hv hv.blt hl
  have h2 : ∀ m b w1, Mem w1 m b → Buf w1 b l.length true l → Fr noF (BF w1 b) w w1 → Calls Tryz.prog 65 #[memI m, .pointer none] w1 (fun e w2 => ∃ p, e = .returned (.pointer (some ⟨p, 0, none⟩)) ∧
      (Calls Tryz.prog 68 #[.pointer (some ⟨p, 0, none⟩)] w2 (fun e w3 => e = .returned (.tuple #[.int .i64 res, ev]) ∧ Mem w3 m b ∧ (∃ z, Buf w3 b l.length z rest) ∧ Fr noF noF w w3)) ∧
      (Calls Tryz.prog 69 #[.pointer (some ⟨p, 0, none⟩)] w2 (fun e w3 => e = .returned (.tuple #[.int .i32 (wrap32 res), ev]) ∧ Mem w3 m b ∧ (∃ z, Buf w3 b l.length z rest) ∧ Fr noF noF w w3))) := by
    intro m b w1 hm hb hf
    refine (NewC_raw m b l.length true l (.pointer none) ⟨0, true, false, false, 0, 0, 0⟩ w1 (Or.inl ⟨rfl, rfl⟩) hm hb).mono ?_
    rintro e w2 ⟨p, rfl, hP, hF, hp⟩
    have hf2 : Fr noF (CPF w2 p b) w w2 := hf.trans hF
    refine ⟨p, rfl, ?_, ?_⟩
    · refine (DoorU64 p m b l.length _ _ rest res ev w2 (hread p m b w2 hP hf2)).mono ?_
      rintro e w3 ⟨z, rfl, hc, hf3⟩
      exact ⟨rfl, hc.mem, ⟨z, hc.buf⟩, (hf2.trans hf3).conv fun _ _ x => x.elim⟩
    · refine (DoorU32 p m b l.length _ _ rest (wrap32 res) ev w2 (C_readVarint32 p m b l.length _ _ rest res ev _ (hread p m b w2 hP hf2))).mono ?_
      rintro e w3 ⟨z, rfl, hc, hf3⟩
      exact ⟨rfl, hc.mem, ⟨z, hc.buf⟩, (hf2.trans hf3).conv fun _ _ x => x.elim⟩
  have hw64 : wrap64 (wrap32 res) = wrap32 res := by unfold wrap64 wrap32; omega
  have hw65 : IntKind.i64.wrap (wrap32 res) = wrap32 res := by rw [w64c]; exact hw64
  have H1 := Lib.hid h1
  have H2 := Lib.hid h2
  have HK := Lib.hid hkind
  have HL := Lib.hid Buf_Len
  clear h1 h2 hkind hread hv hl
  cases long
  · go_enter Tryz.func40, Tryz.ntmps40
    go_wp2_with fail
    (with_reducible refine H1.out.mono ?_)
    rintro e w1 ⟨m, b, rfl, hm, hb, hf, hmn⟩
    have HN := Lib.hid (H2.out m b w1 hm hb hf)
    clear hm hb hf hmn
    go_wp2_with fail
    (with_reducible refine HN.out.mono ?_)
    rintro e w2 ⟨p, rfl, -, h32⟩
    have H32 := Lib.hid h32
    clear h32
    go_wp2_with fail
    (with_reducible refine H32.out.mono ?_)
    rintro e w3 ⟨rfl, hm, ⟨z, hb⟩, hf⟩
    have m0 := hm.cell
    have hq : ∀ X, Fr noF noF w3 X → X.cell? ⟨m, 0, none⟩ = some (.pointer (some ⟨b, 0, none⟩)) := fun X hX => hX.cell m0 fun x => x
    have hln : ∀ X, Fr noF noF w3 X → Calls Tryz.prog 64 #[.pointer (some ⟨b, 0, none⟩)] X fun e w' => e = .returned (.int .i64 (rest.length : Int)) ∧ Fr noF noF X w' := fun X hX => (HL.out b l.length z rest X (hb.keep hX fun _ _ x => x)).mono fun e w' ⟨he, q, hw⟩ => ⟨he, hw ▸ (Fr.refl noF X).drewN q⟩
    have HQ := Lib.hid hq
    have HLN := Lib.hid hln
    have HKD := Lib.hid (fun X hX => HK.out X (hf.trans hX))
    have HF := Lib.hid hf
    clear hm hb hf hq hln m0
    go_wp2_with fail
    go_region_held3 (fun w' => w'.cell? ⟨m, 0, none⟩ = some (.pointer (some ⟨b, 0, none⟩))) (first | exact HQ.out _ (by (focus ((repeat (first | with_reducible exact Fr.refl _ _ | with_reducible assumption | with_reducible refine Fr.alloc ?_ _ | with_reducible refine Fr.drew ?_ | with_reducible refine Fr.drewN ?_ _ | with_reducible refine Fr.trans (F' := noF) ?_ (by with_reducible assumption) | fail)); done))) | fail) (first | (go_at_call 48; (with_reducible refine (HKD.out _ ?_).mono ?_); (focus ((repeat (first | with_reducible exact Fr.refl _ _ | with_reducible assumption | with_reducible refine Fr.alloc ?_ _ | with_reducible refine Fr.drew ?_ | with_reducible refine Fr.drewN ?_ _ | with_reducible refine Fr.trans (F' := noF) ?_ (by with_reducible assumption) | fail)); done)); rintro e w9 ⟨rfl, rfl⟩) | (go_at_call 64; (with_reducible refine (HLN.out _ ?_).mono ?_); (focus ((repeat (first | with_reducible exact Fr.refl _ _ | with_reducible assumption | with_reducible refine Fr.alloc ?_ _ | with_reducible refine Fr.drew ?_ | with_reducible refine Fr.drewN ?_ _ | with_reducible refine Fr.trans (F' := noF) ?_ (by with_reducible assumption) | fail)); done)); rintro e w5 ⟨rfl, hf5⟩) | fail)
    all_goals have HZ := Lib.hid (HF.out.trans (show Fr noF noF w3 w5 by (focus ((repeat (first | with_reducible exact Fr.refl _ _ | with_reducible assumption | with_reducible refine Fr.alloc ?_ _ | with_reducible refine Fr.drew ?_ | with_reducible refine Fr.drewN ?_ _ | with_reducible refine Fr.trans (F' := noF) ?_ (by with_reducible assumption) | fail)); done))))
    all_goals clear hf5
    all_goals go_wp2
    all_goals go_ret3
    all_goals exact ⟨rfl, HZ.out⟩
  · go_enter Tryz.func40, Tryz.ntmps40
    go_wp2_with fail
    (with_reducible refine H1.out.mono ?_)
    rintro e w1 ⟨m, b, rfl, hm, hb, hf, hmn⟩
    have HN := Lib.hid (H2.out m b w1 hm hb hf)
    clear hm hb hf hmn
    go_wp2_with fail
    (with_reducible refine HN.out.mono ?_)
    rintro e w2 ⟨p, rfl, h64, -⟩
    have H64 := Lib.hid h64
    clear h64
    go_wp2_with fail
    (with_reducible refine H64.out.mono ?_)
    rintro e w3 ⟨rfl, hm, ⟨z, hb⟩, hf⟩
    have m0 := hm.cell
    have hq : ∀ X, Fr noF noF w3 X → X.cell? ⟨m, 0, none⟩ = some (.pointer (some ⟨b, 0, none⟩)) := fun X hX => hX.cell m0 fun x => x
    have hln : ∀ X, Fr noF noF w3 X → Calls Tryz.prog 64 #[.pointer (some ⟨b, 0, none⟩)] X fun e w' => e = .returned (.int .i64 (rest.length : Int)) ∧ Fr noF noF X w' := fun X hX => (HL.out b l.length z rest X (hb.keep hX fun _ _ x => x)).mono fun e w' ⟨he, q, hw⟩ => ⟨he, hw ▸ (Fr.refl noF X).drewN q⟩
    have HQ := Lib.hid hq
    have HLN := Lib.hid hln
    have HKD := Lib.hid (fun X hX => HK.out X (hf.trans hX))
    have HF := Lib.hid hf
    clear hm hb hf hq hln m0
    go_wp2_with fail
    go_region_held3 (fun w' => w'.cell? ⟨m, 0, none⟩ = some (.pointer (some ⟨b, 0, none⟩))) (first | exact HQ.out _ (by (focus ((repeat (first | with_reducible exact Fr.refl _ _ | with_reducible assumption | with_reducible refine Fr.alloc ?_ _ | with_reducible refine Fr.drew ?_ | with_reducible refine Fr.drewN ?_ _ | with_reducible refine Fr.trans (F' := noF) ?_ (by with_reducible assumption) | fail)); done))) | fail) (first | (go_at_call 48; (with_reducible refine (HKD.out _ ?_).mono ?_); (focus ((repeat (first | with_reducible exact Fr.refl _ _ | with_reducible assumption | with_reducible refine Fr.alloc ?_ _ | with_reducible refine Fr.drew ?_ | with_reducible refine Fr.drewN ?_ _ | with_reducible refine Fr.trans (F' := noF) ?_ (by with_reducible assumption) | fail)); done)); rintro e w9 ⟨rfl, rfl⟩) | (go_at_call 64; (with_reducible refine (HLN.out _ ?_).mono ?_); (focus ((repeat (first | with_reducible exact Fr.refl _ _ | with_reducible assumption | with_reducible refine Fr.alloc ?_ _ | with_reducible refine Fr.drew ?_ | with_reducible refine Fr.drewN ?_ _ | with_reducible refine Fr.trans (F' := noF) ?_ (by with_reducible assumption) | fail)); done)); rintro e w5 ⟨rfl, hf5⟩) | fail)
    all_goals have HZ := Lib.hid (HF.out.trans (show Fr noF noF w3 w5 by (focus ((repeat (first | with_reducible exact Fr.refl _ _ | with_reducible assumption | with_reducible refine Fr.alloc ?_ _ | with_reducible refine Fr.drew ?_ | with_reducible refine Fr.drewN ?_ _ | with_reducible refine Fr.trans (F' := noF) ?_ (by with_reducible assumption) | fail)); done))))
    all_goals clear hf5
    all_goals go_wp2
    all_goals go_ret3
    all_goals exact ⟨rfl, HZ.out⟩
end Go.Proofs.YtkfkieebcahiiaaGreatDoor
