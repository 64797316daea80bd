/- The calls of a message: what must stand ahead of them; the kinds that the specification's writer tells. -/
import Derived.Test.YtdifknecndlklaaGreatDoorZV
set_option linter.all false
namespace Go.Proofs.YtdifknecndlklaaGreatDoor
open Go Go.RowKit
set_option linter.all false

theorem sstep_kind (c : ConfV) (s : SSt) (op : WOp) : (sstep c s op).2 = 0 ∨ (sstep c s op).2 = -2 := by
  unfold sstep sC
  split
  · split
    · exact Or.inr rfl
    · show (sCs s op).2 = 0 ∨ (sCs s op).2 = -2
      cases op <;> simp only [sCs] <;> (repeat' split) <;> simp
  · exact Or.inl rfl
theorem srun_kind (c : ConfV) : ∀ (l : List WOp) (s : SSt), (srun c s l).2 = 0 ∨ (srun c s l).2 = -2
  | [], s => Or.inl rfl
  | op :: l, s => by
    simp only [srun]
    split
    · exact srun_kind c l _
    · exact sstep_kind c s op
/-- Of kind 0 the specification's bytes are the package's. -/
theorem srun_enc (c : ConfV) (l : List WOp) (h : (srun c SSt.new l).2 = 0) : (srun c SSt.new l).1.out = encAll c CSt.new l := by
  have := (SRel.run c l (s := SSt.new) (st := CSt.new) ⟨rfl, rfl, rfl, fun h => by simp at h⟩ h).1
  rw [this]
  rfl

/-- The calls of a message. -/
def msgL (nm : List UInt8) (t sq : Int) (x : VT) : List WOp := .msgBegin (strOf nm) t sq :: (x.wops ++ [.msgEnd])
theorem msg_most (nm : List UInt8) (t sq : Int) (x : VT) (hw : x.weight ≤ 65536) (hn : nm.length ≤ 65536) : mostAll (msgL nm t sq x) ≤ 7000000 := by
  have h1 := most_wops x
  have hs : (strOf nm).size = nm.length := by simp [strOf, ByteArray.size]
  have e0 : mostAll [] = 0 := rfl
  unfold msgL
  rw [mostAll_cons, mostAll_append, mostAll_cons, e0]
  simp only [WOp.most, hs]
  omega
theorem msg_rng (nm : List UInt8) (t sq : Int) (x : VT) (hx : x.small) (hr : x.rng) : rngAll (msgL nm t sq x) := by
  unfold msgL
  rw [rngAll_cons, rngAll_append, rngAll_cons]
  exact ⟨trivial, rng_wops x hx hr, trivial, rngAll_nil⟩
theorem msg_dep (nm : List UInt8) (t sq : Int) (x : VT) (d : Nat) : dep d (msgL nm t sq x) ≠ none := by
  unfold msgL
  rw [dep_other (by simp) (by simp), dep_append, dep_wops]
  show dep d [.msgEnd] ≠ none
  rw [dep_other (by simp) (by simp)]
  simp [dep]
theorem msg_good (nm : List UInt8) (t sq : Int) (x : VT) (hx : x.small) (hr : x.rng) (hw : x.weight ≤ 65536) (hn : nm.length ≤ 65536) : SGood SSt.new (msgL nm t sq x) := by
  have h := msg_most nm t sq x hw hn
  exact ⟨SSt.new_ok, by show 0 + _ ≤ _; omega, msg_rng nm t sq x hx hr, by show 0 + _ ≤ _; omega⟩
end Go.Proofs.YtdifknecndlklaaGreatDoor
