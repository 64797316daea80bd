/- impl.Read by the compact protocol: steps that take nothing. Printed by gen_rpc.py. -/
import Derived.Test.YtkfkieebcahiiaaGreatDoorZRpC
import Derived.Test.YtkfkieebcahiiaaGreatDoorZB
set_option linter.all false
namespace Go.Proofs.YtkfkieebcahiiaaGreatDoor
open Go Go.RowKit
set_option maxHeartbeats 2000000
set_option maxRecDepth 100000
set_option linter.all false

theorem read_prepC (c : ConfV) (hc : c.proto = 1) (sv : Value) (xs : List Stp) (l : List UInt8) (GS : List GotD) (rest : List UInt8) (w W0 : World) (hs : RdS w noF sv xs) (hn : xs.length ≤ 10000000) (st : CSt) (hrun : ∀ p m b T cf, rrun (protoRC p m b T cf c) (l, CSt.new) xs = some (GS, (rest, st))) (hf0 : Fr noF noF w W0)
    (m b T : Nat) (w1 : World) (hm : Mem w1 m b) (hb : Buf w1 b T true l) (hf : Fr noF (BF w1 b) W0 w1) (hmn : W0.heap.size ≤ m) :
    Calls Tryz.prog 44 #[c.val, memI m] w1 (fun e w2 => ∃ p, e = .returned (comI p) ∧ Calls Tryz.prog 63 #[comI p, sv] w2 (fun e w3 => ∃ v z, e = .returned v ∧ REnd w w3 m b T z rest GS v)) := by
  have hf1 : Fr noF (BF w1 b) w w1 := hf0.trans hf
  refine (ProtC_raw m b T true l c w1 hc hm hb).mono ?_
  rintro e w2 ⟨p, cf, rfl, hcf, hP, hF, hp, hcn⟩
  have hf2 : Fr noF (CPF w2 p b) w w2 := hf1.trans hF
  have hsz : w.heap.size ≤ w1.heap.size := hf1.size
  have hfA : Fr noF (CAll w2 p m b cf) w w2 := hf2.conv fun k hk hx => by
    rcases hx with hx | rfl | hx
    · exact hx
    · have := hf0.size; omega
    · have := hcn k hx; omega
  refine ⟨p, rfl, (I_reads (protoRC p m b T cf c) (protoRC_ok p m b T cf c) sv xs (l, CSt.new) (rest, st) GS w2 ⟨⟨true, hP⟩, hcf⟩ (hs.new hfA) hn (hrun p m b T cf)).mono ?_⟩
  rintro e w3 ⟨v, vs, rfl, hR⟩
  obtain ⟨⟨⟨z, hB⟩, hC⟩, hfr, hlen, hown, hap, hea⟩ := hR
  have hsz2 := hf2.size
  refine ⟨v, z, rfl, hB.mem.cell, hB.buf, (hfA.trans hfr).conv fun k _ hk => hk.elim, vs, hlen, ?_, fun j g u hj hu => ⟨(hea j g u hj hu).1, fun k hk => by have := ((hea j g u hj hu).2 k hk).1; omega⟩⟩
  obtain ⟨e0, e1 | ⟨bb, cap, cur, e1, e2, e3⟩⟩ := hown
  · exact ⟨e0, Or.inl e1⟩
  · exact ⟨e0, Or.inr ⟨bb, cap, cur, e1, by omega, e3⟩⟩

theorem I_Read_C (c : ConfV) (hc : c.proto = 1) (v sv : Value) (xs : List Stp) (l : List UInt8) (GS : List GotD) (rest : List UInt8) (w : World) (hv : Rd w v l) (hs : RdS w noF sv xs) (hn : xs.length ≤ 10000000) (hl : l.length ≤ LIM) (st : CSt) (hrun : ∀ p m b T cf, rrun (protoRC p m b T cf c) (l, CSt.new) xs = some (GS, (rest, st))) :
    Calls Tryz.prog 36 #[c.val, v, sv] w (ReadR w GS rest.length) := by
  have hf0 : Fr noF noF w (w.alloc (.cells #[.int .i64 c.proto, .bool c.plain, .bool c.sr, .bool c.sw, .int .i32 c.msg, .int .i32 c.con, .int .i32 c.fra] 23 (0, 0))) := (Fr.refl noF w).alloc _
  have hv2 := hv.keep hf0 fun _ _ x => x
  have h1 := I_holding v l _ hv2 hv2.blt hl
  have h2 := fun m b T w1 hm hb hf hmn => read_prepC c hc sv xs l GS rest w _ hs hn st hrun hf0 m b T w1 hm hb hf hmn
  obtain ⟨pr, pl, sr, sw, ms, co, fr⟩ := c
  obtain ⟨sa, sn, sc, rfl⟩ : ∃ a n c, sv = .slice a n c := by
    rcases hs with ⟨a, c, rfl, rfl⟩ | ⟨g, o, c, rfl, _⟩
    · exact ⟨_, _, _, rfl⟩
    · exact ⟨_, _, _, rfl⟩
  obtain ⟨va, vn, vc, rfl, -⟩ := hv.len
  have H1 := Lib.hid h1
  have H2 := Lib.hid h2
  clear h1 h2 hv hv2 hs hn hl hrun hc hf0
  go_enter Tryz.func36, Tryz.ntmps36
  go_wp2_with fail
  refine H1.out.mono ?_
  rintro e w1 ⟨m, b, rfl, hm, hb, hf, hmn⟩
  have n1 := hf.block (alloc_new w _) fun x => x
  have c0 := cell_at n1 0
  have c1 := cell_at n1 1
  have c2 := cell_at n1 2
  have c3 := cell_at n1 3
  have c4 := cell_at n1 4
  have c5 := cell_at n1 5
  have c6 := cell_at n1 6
  simp only [List.getElem?_toArray, List.getElem?_cons_zero, List.getElem?_cons_succ] at c0 c1 c2 c3 c4 c5 c6
  have HP := Lib.hid (H2.out m b _ w1 hm hb hf hmn)
  clear hm hb hf hmn n1
  go_wp2_with fail
  refine HP.out.mono ?_
  rintro e w2 ⟨p, rfl, hx⟩
  have HX := Lib.hid hx
  clear hx c0 c1 c2 c3 c4 c5 c6
  go_wp2_with fail
  refine HX.out.mono ?_
  rintro e w3 ⟨gv, z, rfl, hE⟩
  have m0 := hE.mem
  have HE := Lib.hid hE
  clear hE
  go_wp2_with fail
  refine (Buf_Len b _ z rest w3 HE.out.buf).mono ?_
  rintro e w4 ⟨rfl, q, rfl⟩
  clear m0
  go_wp2
  go_ret2
  exact ⟨gv, rfl, HE.out.got.drewN q, HE.out.fr.drewN q⟩
end Go.Proofs.YtkfkieebcahiiaaGreatDoor
