/- The package's message: a begin, a value, an end, by whatever protocol. -/
import Derived.Test.YtkfkieebcahiiaaGreatDoorZE
set_option linter.all false
namespace Go.Proofs.YtkfkieebcahiiaaGreatDoor
open Go Go.RowKit
set_option maxHeartbeats 4000000
set_option maxRecDepth 100000
set_option linter.all false

theorem I_msg_chain (c : ConfV) (x : VT) (hx : x.small) (nm : List UInt8) (hnl : nm.length ≤ 1000000) (T sq : Int) (v : Value) (w W0 : World) (hv : ValR w x v) (hf0 : Fr noF noF w W0) (l : List WOp) (hl : l = .msgBegin (strOf nm) T sq :: (x.wops ++ [.msgEnd])) (hm2 : mostAll l ≤ LIM) (hr : rngAll l) (hd : c.proto = 1 → dep CSt.new.stack.length l ≠ none)
    (m b : Nat) (w1 : World) (hm : Mem w1 m b) (hb : Buf w1 b 0 true []) (hf : Fr noF (BF w1 b) W0 w1) (hmn : W0.heap.size ≤ m) :
    Calls Tryz.prog 44 #[c.val, memI m] w1 (fun e w2 => ∃ P : WProto WSt, e = .returned (.iface P.T P.recv) ∧ P.Ok ∧ Fr noF noF W0 w2 ∧ (∀ W2, Fr noF noF w2 W2 →
      Calls Tryz.prog (P.fn "WriteMessageBegin") ((WOp.msgBegin (strOf nm) T sq).args P.recv) W2 (fun e w3 => e = .returned .nilIface ∧ Fr noF noF W0 w3 ∧
        Calls Tryz.prog 46 #[.iface P.T P.recv, v] w3 (fun e w4 => e = .returned .nilIface ∧ Fr noF noF W0 w4 ∧ (∀ W4, Fr noF noF w4 W4 →
          Calls Tryz.prog (P.fn "WriteMessageEnd") (WOp.msgEnd.args P.recv) W4 (fun e w5 => e = .returned .nilIface ∧ Fr noF noF W0 w5 ∧ PutEnd w w5 m b (encAll c CSt.new l))))))) := by
  subst hl
  have nof : ∀ {F' : Nat → Prop} {a b : World}, Fr noF F' a b → Fr noF noF a b := fun h => h.conv fun _ _ x => x.elim
  refine (Prot_any m b c w1 hm hb).mono ?_
  rintro e w2 ⟨P, rfl, hM, hI, hF⟩
  have hfA : Fr noF (P.F w2) W0 w2 := (hf.conv (F'' := fun k => BF w1 b k ∨ k = m) fun k hk hx => by
    rcases hx with hx | rfl
    · exact hx
    · omega).trans hF
  have hg := hM.goods _ (0, [], CSt.new) CSt.new_ok (by rw [Nat.zero_add]; exact hm2) hr hd
  have hst := hM.steps (.msgBegin (strOf nm) T sq :: (x.wops ++ [.msgEnd])) (0, [], CSt.new)
  obtain ⟨hg1, hg2⟩ := hg
  rw [WProto.goods_append] at hg2
  have hst2 : P.step (P.steps (P.step (0, [], CSt.new) (.msgBegin (strOf nm) T sq)) x.wops) .msgEnd = P.steps (0, [], CSt.new) (.msgBegin (strOf nm) T sq :: (x.wops ++ [.msgEnd])) := by
    show _ = P.steps (P.step (0, [], CSt.new) (.msgBegin (strOf nm) T sq)) (x.wops ++ [.msgEnd])
    rw [WProto.steps_append]
    rfl
  refine ⟨P, rfl, hM.ok, nof hfA, fun W2 hW2 => ?_⟩
  obtain ⟨hI2, _, q2⟩ := hM.ok.quiet hI hW2
  have hf2 := hfA.trans q2
  refine (hM.ok.call (.msgBegin (strOf nm) T sq) W2 _ hI2 hg1 (show (strOf nm).size ≤ maxLen by unfold maxLen; simp [strOf, ByteArray.size]; omega)).mono ?_
  rintro e w3 ⟨rfl, hI3, hF3⟩
  have hf3 := hf2.trans hF3
  refine ⟨rfl, nof hf3, (I_put_any P hM.ok x hx w v w3 _ hv (hf0.trans hf3) hI3 hg2.1).mono ?_⟩
  rintro e w4 ⟨rfl, hI4, hF4⟩
  have hf4 := hf3.trans hF4
  refine ⟨rfl, nof hf4, fun W4 hW4 => ?_⟩
  obtain ⟨hI5, _, q5⟩ := hM.ok.quiet hI4 hW4
  have hf5 := hf4.trans q5
  refine (hM.ok.call .msgEnd W4 _ hI5 hg2.2.1 trivial).mono ?_
  rintro e w5 ⟨rfl, hI6, hF6⟩
  have hf6 := hf5.trans hF6
  rw [hst2, hst] at hI6
  simp only [Nat.zero_add, List.nil_append] at hI6
  obtain ⟨h1, h2⟩ := hM.mem _ _ hI6
  exact ⟨rfl, nof hf6, h1, h2.tight, (hf0.trans hf6).conv fun k _ hk => hM.foot _ _ hk⟩
end Go.Proofs.YtkfkieebcahiiaaGreatDoor
