/- impl.owned, laws.joined's like: bytes copied into new memory; bytes turned to a text. -/
import Derived.Test.YtdedkoahfailcaaGreatDoorOwn
import Derived.Test.YtdedkoahfailcaaGreatDoorProg
import Derived.Lib.Hide
import Derived.Laws.AppendOwnNone
import Derived.Laws.IdiomStrings
import Derived.Lib.BufferRead
namespace Go.Proofs.YtdedkoahfailcaaGreatDoor
open Go Go.RowKit
set_option maxHeartbeats 1000000
set_option maxRecDepth 100000

/-- What is appended lies in a block of its own. -/
theorem app_cell (w : World) (v : Value) (t : TypeId) : ∀ (j : Nat) u, [v][j]? = some u → (w.alloc (.cells #[v] t (0, 0))).cell? ((⟨w.heap.size, 0, none⟩ : Addr).add j) = some u := fun j u hj => by
  match j, hj with
  | 0, hj =>
    simp at hj
    subst hj
    rw [Lib.addr_add, cell_at (alloc_new w _)]
    rfl
theorem app_one {v : Value} (h : v.oneCell' = true) : ∀ u ∈ [v], u.oneCell' = true := fun u hu => by simp at hu; subst hu; exact h
theorem info_u8 : (Tryz.prog.info? 5).map (fun i => (i.zero, i.size, i.bytes)) = some (some (.int .u8 0), 1, 1) := by kernel_rfl
/-- New bytes. -/
def NewR (l : List UInt8) (w : World) (e : Ending) (w' : World) : Prop := ∃ v, e = .returned v ∧ OwnB w' w.heap.size v l ∧ Fr noF noF w w'

theorem conv_back {w : World} {v : Value} {l : List UInt8} (h : Rd w v l) : (convert 35 9 v).run Tryz.prog w = .ok (.string ⟨l.toArray⟩) w := by
  rcases h with ⟨rfl, rfl⟩ | ⟨a, n, c, rfl, rfl, _, _, hc⟩
  · exact Lib.run_convert_nil_bytes w _ _ _ 0 Tryz.underlying35 Tryz.underlying5 Tryz.underlying9
  · exact run_convert_bytes_back w _ _ _ a c l Tryz.underlying35 Tryz.underlying5 Tryz.underlying9 fun j hj => hc j _ (List.getElem?_eq_getElem hj)

theorem I_owned (v : Value) (l : List UInt8) (w : World) (h : Rd w v l) (hl : l.length ≤ 1000000000) : Calls Tryz.prog 45 #[v] w (NewR l w) := by
  obtain ⟨i0, hi, hz0, hz1, hz2⟩ := info_parts info_u8
  rcases h with ⟨rfl, rfl⟩ | ⟨a, n, c, rfl, hn, hc, hm, hs⟩
  · go_enter Tryz.func45, Tryz.ntmps45
    go_wp2_with (at_builtin; refine wpList_append_own_none rfl _ _ 35 rfl w.heap.size U8 i0 1 Tryz.underlying35 hi _ 0 [] rfl (OwnB.nil w _) rfl ?_)
    go_ret
    exact ⟨_, rfl, OwnB.nil _ _, Fr.refl noF w⟩
  · have HO := Lib.hid (OwnB.nil w w.heap.size)
    have HS := Lib.hid hs
    clear hs
    go_enter Tryz.func45, Tryz.ntmps45
    go_wp2_with (at_builtin; refine wpList_append_own _ rfl _ _ 35 rfl w.heap.size U8 i0 (.int .u8 0) 1 1 Tryz.underlying35 hi hz0 hz1 hz2 rfl (by decide) (.slice none 0 0) 0 [] rfl HO.out a n c (Lib.byteCells l) rfl (by rw [bcells_length]; omega) (fun j u hj => by obtain ⟨x, h1, rfl⟩ := bcells_get hj; exact HS.out j x h1) (fun u hu => by simp only [Lib.byteCells, List.mem_map] at hu; obtain ⟨x, _, rfl⟩ := hu; rfl) (by unfold maxLen; omega) (by omega) (Nat.le_refl _) ?_)
    intro v' w' hown hg _
    have HG := Lib.hid (And.intro hown hg)
    clear hown hg
    go_wp2
    go_ret
    refine ⟨_, rfl, ?_, (Fr.refl noF w).grown HG.out.2 (fun k hk => by cases hk)⟩
    have := HG.out.1
    exact OwnB.more (l := []) (m := l) this (by simp; omega)
end Go.Proofs.YtdedkoahfailcaaGreatDoor
