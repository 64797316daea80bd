/- encoding/hex.Encode, and the text of a uuid. (X_Encode: the kit's walk of this function, turned to this program.) -/
import Derived.Test.YtdedkoahfailcaaGreatDoorUuidP
import Derived.Test.YtdedkoahfailcaaGreatDoorOwned
import Derived.Lib.HexFns
import Derived.Lib.Walk
import Derived.Lib.Strings
import Derived.BigCall
import Derived.BigGuard
import Derived.Deep.Draws
import Derived.Laws.Strings3
import Derived.Deep.OwnRows
namespace Go.Proofs.YtdedkoahfailcaaGreatDoor
open Go Go.RowKit Go.Lib
set_option maxHeartbeats 2000000
set_option maxRecDepth 100000

theorem X_Encode (T : TypeId) (bd od nd cd N : Nat) (f : Nat → Value) (bs os n cs : Nat) (l : List UInt8) (w : World)
    (hl : l.length = n) (hsrc : ∀ i u, l[i]? = some u → w.cell? ⟨bs, os + i, none⟩ = some (.int .u8 u.toNat))
    (hrow : w.rowIs bd T N f) (hfit : od + nd ≤ N) (hlen : 2 * n ≤ nd) (hne : bd ≠ bs) (hbig : n ≤ 1000000) :
    Calls Tryz.prog 67 #[.slice (some ⟨bd, od, none⟩) nd cd, .slice (some ⟨bs, os, none⟩) n cs] w fun e w' => e = .returned (.int .i64 ((n : Int) * 2)) ∧ w'.rowIs bd T N (Hx.row f od l n) ∧ w.grownBy w' (some bd) := by
  have HS := Lib.hid hsrc
  have HX0 := Lib.hid hl
  clear hsrc hl
  go_enter Tryz.func67, Tryz.ntmps67
  go_wp2
  go_loopw [5, 10] (fun vj vi wr => ∃ k : Nat, k ≤ n ∧ vi = .int .i64 k ∧ vj = .int .i64 ((2 * k : Nat) : Int) ∧ Hid (wr.rowIs bd T N (Hx.row f od l k)) ∧ Hid (w.grownBy wr (some bd))) (fun _ vi _ => n - (RowKit.intOf vi).toNat)
  case atStart => exact ⟨0, Nat.zero_le _, rfl, rfl, hrow.congr (fun j _ => Hx.row_zero f od _ j), Hx.grownBy_refl _ _⟩
  case round =>
    obtain ⟨k, hk, rfl, rfl, hrw, hgr⟩ := hrel
    rcases Nat.lt_or_ge k n with hlt | hge
    · obtain ⟨u, hu⟩ : ∃ u, l[k]? = some u := ⟨_, List.getElem?_eq_getElem (by rw [HX0.out]; exact hlt)⟩
      obtain ⟨x, hxu⟩ : ∃ x : Int, x = (u.toNat : Int) := ⟨_, rfl⟩
      have hcx : wr.cell? ⟨bs, os + k, none⟩ = some (.int .u8 x) := by rw [hxu]; exact hgr.out.cell (HS.out k u hu) (by simp; omega)
      have hx0 : 0 ≤ x := by omega
      have hx1 : x < 256 := by have := UInt8.toNat_lt u; omega
      have HX := Lib.hid (And.intro hu hxu)
      have hlt' : (k : Int) < (n : Int) := by omega
      clear hxu hu
      have hf1 : wr.frozen? ⟨bd, od + 2 * k, none⟩ = false := hrw.out.frozen _
      have hc1 : wr.cell? ⟨bd, od + 2 * k, none⟩ = some (Hx.row f od l k (od + 2 * k)) := hrw.out.cell (by omega)
      have hf2 : ∀ v, (wr.setCell ⟨bd, od + 2 * k, none⟩ v).frozen? ⟨bd, od + (2 * k + 1), none⟩ = false := fun v => (hrw.out.set _ v).frozen _
      have hc2 : ∀ v, (wr.setCell ⟨bd, od + 2 * k, none⟩ v).cell? ⟨bd, od + (2 * k + 1), none⟩ = some (Hx.row f od l k (od + (2 * k + 1))) := fun v => by
        have := (hrw.out.set (od + 2 * k) v).cell (i := od + (2 * k + 1)) (by omega)
        rwa [if_neg (by omega)] at this
      go_wp2
      go_roundw
      case rel =>
        refine ⟨k + 1, by omega, by go_num, by first | go_num | (congr 1; omega), ((hrw.out.set _ _).set _ _).congr (fun j _ => ?_), Hx.grownBy_set (Hx.grownBy_set hgr.out _ rfl _) _ rfl _⟩
        have e1 := Hx.dig_hi x hx0 hx1 (by show _ < 16; omega)
        have e2 := Hx.dig_lo x hx0 hx1 (by show _ < 16; omega)
        have e3 := Hx.row_step f od l k u HX.out.1 j
        have e4 : UInt8.ofNat x.toNat = u := by rw [HX.out.2]; simp
        rw [e4] at e1 e2
        rw [← e1, ← e2] at e3
        exact e3
      case measure => simp [RowKit.intOf]; omega
    · obtain rfl : k = n := by omega
      go_wp2
      go_ret
      exact ⟨rfl, hrw.out, hgr.out⟩

/-- The text of a uuid. -/
def utext (U : List UInt8) : List UInt8 :=
  Hx.encode (U.take 4) ++ 45 :: (Hx.encode ((U.drop 4).take 2) ++ 45 :: (Hx.encode ((U.drop 6).take 2) ++ 45 :: (Hx.encode ((U.drop 8).take 2) ++ 45 :: Hx.encode (U.drop 10))))

theorem list16 {α : Type} {l : List α} (h : l.length = 16) : ∃ a b c d e f g h i j k m n o p q, l = [a, b, c, d, e, f, g, h, i, j, k, m, n, o, p, q] := by
  match l, h with
  | [a, b, c, d, e, f, g, h, i, j, k, m, n, o, p, q], _ => exact ⟨a, b, c, d, e, f, g, h, i, j, k, m, n, o, p, q, rfl⟩
theorem utext_len {U : List UInt8} (h : U.length = 16) : (utext U).length = 36 := by
  obtain ⟨a, b, c, d, e, f, g, h, i, j, k, m, n, o, p, q, rfl⟩ := list16 h
  rfl

abbrev dashV : Value := .int .u8 45
/-- The 36 places, as they are written. -/
def ufn (U : List UInt8) : Nat → Value :=
  Hx.row (fun j => if j = 23 then dashV else Hx.row (fun j => if j = 18 then dashV else Hx.row (fun j => if j = 13 then dashV else Hx.row (fun j => if j = 8 then dashV else Hx.row (fun _ => .int .u8 0) 0 (U.take 4) 4 j) 9 ((U.drop 4).take 2) 2 j) 14 ((U.drop 6).take 2) 2 j) 19 ((U.drop 8).take 2) 2 j) 24 (U.drop 10) 6
theorem lt36 {j : Nat} (P : Nat → Prop) (h : ∀ k : Fin 36, P k.val) (hj : j < 36) : P j := h ⟨j, hj⟩
theorem ufn_at {U : List UInt8} (hU : U.length = 16) {j : Nat} (hj : j < 36) : ufn U j = .int .u8 ((utext U).getD j 0).toNat := by
  obtain ⟨a, b, c, d, e, f, g, h, i, j', k, m, n, o, p, q, rfl⟩ := list16 hU
  have hw : j = 0 ∨ j = 1 ∨ j = 2 ∨ j = 3 ∨ j = 4 ∨ j = 5 ∨ j = 6 ∨ j = 7 ∨ j = 8 ∨ j = 9 ∨ j = 10 ∨ j = 11 ∨ j = 12 ∨ j = 13 ∨ j = 14 ∨ j = 15 ∨ j = 16 ∨ j = 17 ∨ j = 18 ∨ j = 19 ∨ j = 20 ∨ j = 21 ∨ j = 22 ∨ j = 23 ∨ j = 24 ∨ j = 25 ∨ j = 26 ∨ j = 27 ∨ j = 28 ∨ j = 29 ∨ j = 30 ∨ j = 31 ∨ j = 32 ∨ j = 33 ∨ j = 34 ∨ j = 35 := by omega
  rcases hw with rfl | rfl | rfl | rfl | rfl | rfl | rfl | rfl | rfl | rfl | rfl | rfl | rfl | rfl | rfl | rfl | rfl | rfl | rfl | rfl | rfl | rfl | rfl | rfl | rfl | rfl | rfl | rfl | rfl | rfl | rfl | rfl | rfl | rfl | rfl | rfl <;> rfl
end Go.Proofs.YtdedkoahfailcaaGreatDoor
