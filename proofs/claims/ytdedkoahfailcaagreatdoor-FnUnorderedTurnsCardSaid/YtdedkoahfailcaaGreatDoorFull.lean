/- Reads of whole pieces: io.ReadAtLeast, io.ReadFull over a memory buffer that holds enough. -/
import Derived.Test.YtdedkoahfailcaaGreatDoorRead
namespace Go.Proofs.YtdedkoahfailcaaGreatDoor
open Go Go.RowKit
set_option maxHeartbeats 1000000
set_option maxRecDepth 100000

theorem ReadP.drew {w w2 : World} {b T : Nat} {l : List UInt8} {g : Nat} {Tg : TypeId} {cs : Array Value} {o n : Nat} {e : Ending} (h : ReadP w.drew b T l g Tg cs o n e w2) : ReadP w b T l g Tg cs o n e w2 :=
  ⟨h.1, h.2.1, h.2.2.1, (Fr.refl _ w).drew.trans h.2.2.2⟩

theorem RAL_full (m b T : Nat) (z : Bool) (l : List UInt8) (g : Nat) (Tg : TypeId) (cs : Array Value) (o k cap : Nat) (w : World) (hm : w.cell? ⟨m, 0, none⟩ = some (.pointer (some ⟨b, 0, none⟩))) (hmb : ¬ BF w b m) (hmg : m ≠ g) (h : Buf w b T z l) (hkl : k ≤ l.length) (hg : w.heap[g]? = some (.cells cs Tg (0, 0))) (hfit : o + k ≤ cs.size) (hk : 0 < k) (hcap : k ≤ cap) (hcap2 : cap ≤ maxLen) (hfar : ¬ BF w b g) :
    Calls Tryz.prog 90 #[memI m, .slice (some ⟨g, o, none⟩) k cap, .int .i64 k] w (ReadP w b T l g Tg cs o k) := by
  have hl0 : l ≠ [] := fun e => by subst e; simp at hkl; omega
  have hR := Buf_Read_some b T z l g Tg cs o k cap k (by omega) w.drew h hl0 hg hfit hk hfar
  have hme : (method 446 PM (.pointer (some ⟨m, 0, none⟩)) "Read").run Tryz.prog w.drew = .ok (109, .pointer (some ⟨b, 0, none⟩)) w.drew := meth_Read hm
  have ha := ahead_Read
  have HR := Lib.hid hR
  have hc0 : cap ≠ 0 := by omega
  have hk3 : (0 : Int) ≤ (k : Int) := by omega
  have hk5 : (k : Int) ≤ cap := by omega
  have hk4 : (0 : Int) < (k : Int) := by omega
  have hmm : ∀ w2, ReadP w.drew b T l g Tg cs o k (.returned (.tuple #[.int .i64 k, .nilIface])) w2 → w2.cell? ⟨m, 0, none⟩ = some (.pointer (some ⟨b, 0, none⟩)) := fun w2 hw => hw.2.2.2.cell (w := w.drew) hm (fun hx => hx.elim hmb hmg)
  have HM := Lib.hid hmm
  have hk6 : (k : Int) ≤ 9223372036854775807 := by unfold maxLen at hcap2; omega
  clear hR h hg hfit hfar hmb hmg hmm hl0 hkl
  go_enter Tryz.func90, Tryz.ntmps90
  go_wp2_with fail
  go_loopw [6, 7, 8] (fun n e x wr => e = .nilIface ∧ ((n = .int .i64 0 ∧ wr = w) ∨ (n = .int .i64 k ∧ Hid (ReadP w b T l g Tg cs o k (.returned (.tuple #[.int .i64 k, .nilIface])) wr)))) (fun n _ _ _ => k - (intOf n).toNat)
  case atStart => exact ⟨rfl, Or.inl ⟨rfl, rfl⟩⟩
  case round =>
    obtain ⟨rfl, ⟨rfl, rfl⟩ | ⟨rfl, hF⟩⟩ := hrel
    · go_wp2_with fail
      go_region_held3 (fun w' => w'.cell? ⟨m, 0, none⟩ = some (.pointer (some ⟨b, 0, none⟩))) (first | exact hm | exact d0) (first | (go_at_call 109; refine HR.out.mono ?_; rintro e w2 hw; obtain rfl := hw.1; have d0 := HM.out w2 hw; have HX := Lib.hid hw; clear hw))
      all_goals go_wp2
      all_goals refine ⟨⟨rfl, Or.inr ⟨rfl, Lib.hid HX.out.drew⟩⟩, ?_⟩
      all_goals (show k - (k : Int).toNat < k - (0 : Int).toNat; omega)
    · go_wp2
      go_ret2
      exact hF.out
end Go.Proofs.YtdedkoahfailcaaGreatDoor
