/- Texts, binaries and uuids as steps, by the binary protocol. -/
import Derived.Test.YtoikkjefaakchaaGreatDoorZFld
set_option linter.all false
namespace Go.Proofs.YtoikkjefaakchaaGreatDoor
open Go Go.RowKit
set_option maxHeartbeats 2000000
set_option maxRecDepth 100000
set_option linter.all false

theorem wide_msg {c : ConfV} (h : Wide c) : 65536 ≤ c.maxMsg := by
  unfold ConfV.maxMsg
  unfold Wide at h
  repeat' split
  all_goals first | omega | (rcases h with h | ⟨h, _, _⟩ <;> first | omega | (simp_all; done) | (simp_all; omega))
theorem csz_txt (n : Nat) (hn : n ≤ 65536) (rest : List UInt8) : cszB (be4 n ++ rest) = n := by
  unfold cszB
  rw [List.take_append_of_le_length (by rw [be4_length]; decide), List.take_of_length_le (by rw [be4_length]; decide)]
  unfold be4
  rw [Lib.beNat_beBytes]
  · unfold wrap32
    omega
  · rw [show (256 : Nat) ^ 4 = 4294967296 by decide]
    omega
theorem txt_read {c : ConfV} (h : Wide c) (s tail : List UInt8) (hs : s.length ≤ 65536) : txtB c ((be4 s.length ++ s) ++ tail) ∧ (((be4 s.length ++ s) ++ tail).drop 4).take (cszB ((be4 s.length ++ s) ++ tail)).toNat = s ∧ (((be4 s.length ++ s) ++ tail).drop 4).drop (cszB ((be4 s.length ++ s) ++ tail)).toNat = tail := by
  have hm := wide_msg h
  rw [List.append_assoc]
  have hc := csz_txt s.length hs (s ++ tail)
  have hd : (be4 (s.length : Int) ++ (s ++ tail)).drop 4 = s ++ tail := drop_app (be4_length _)
  refine ⟨⟨?_, ?_, ?_, ?_, ?_⟩, ?_, ?_⟩
  · rw [List.length_append, be4_length]; omega
  · rw [hc]; omega
  · rw [hc, hd, Int.toNat_natCast, List.length_append]; omega
  · rw [hc, Int.toNat_natCast]; omega
  · rw [hc]; omega
  · rw [hc, hd, Int.toNat_natCast]; simp
  · rw [hc, hd, Int.toNat_natCast]; simp
theorem txt19 {c : ConfV} (h : Wide c) (v : Value) (s tail : List UInt8) (hs : s.length ≤ 65536) : (Stp.binB c.strictW ⟨19, 0, 0, 0, 0, 0, v, s⟩) = be4 s.length ++ s ∧ brun c ((be4 s.length ++ s) ++ tail) [⟨19, 0, 0, 0, 0, 0, v, s⟩] = some ([({ s := s } : GotD)], tail) := by
  obtain ⟨h1, h2, h3⟩ := txt_read h s tail hs
  refine ⟨by simp [Stp.binB, Stp.wop, WOp.binB, strOf, ByteArray.size], ?_⟩
  rw [brun_one (op := .string) (v := { s := s }) (rest := tail) rfl (by show bnext c _ .string = _; simp only [bnext]; rw [if_pos h1, h2, h3])]
  rfl
theorem txt20 {c : ConfV} (h : Wide c) (v : Value) (s tail : List UInt8) (hs : s.length ≤ 65536) : (Stp.binB c.strictW ⟨20, 0, 0, 0, 0, 0, v, s⟩) = be4 s.length ++ s ∧ brun c ((be4 s.length ++ s) ++ tail) [⟨20, 0, 0, 0, 0, 0, v, s⟩] = some ([({ s := s } : GotD)], tail) := by
  obtain ⟨h1, h2, h3⟩ := txt_read h s tail hs
  refine ⟨by simp [Stp.binB, Stp.wop, WOp.binB], ?_⟩
  rw [brun_one (op := .binary) (v := { s := s }) (rest := tail) rfl (by show bnext c _ .binary = _; simp only [bnext]; rw [if_pos h1, h2, h3])]
  rfl
theorem txt21 (c : ConfV) (v : Value) (s tail : List UInt8) : (Stp.binB c.strictW ⟨21, 0, 0, 0, 0, 0, v, s⟩) = pad16 s ∧ brun c (pad16 s ++ tail) [⟨21, 0, 0, 0, 0, 0, v, s⟩] = some ([({ s := pad16 s } : GotD)], tail) := by
  refine ⟨by simp [Stp.binB, Stp.wop, WOp.binB], ?_⟩
  have ht : (pad16 s ++ tail).take 16 = pad16 s := by rw [List.take_append_of_le_length (by rw [pad16_len]; decide), List.take_of_length_le (by rw [pad16_len]; decide)]
  have hd : (pad16 s ++ tail).drop 16 = tail := drop_app (pad16_len s)
  rw [brun_one (op := .uuid) (v := { s := pad16 s }) (rest := tail) rfl (by show bnext c _ .uuid = _; simp only [bnext]; rw [if_pos (by rw [List.length_append, pad16_len]; omega), ht, hd])]
  rfl
end Go.Proofs.YtoikkjefaakchaaGreatDoor
