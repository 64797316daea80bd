/- Values of the thin package: how they lie in memory, and by which calls they are put. -/
import Derived.Test.YtdifknecndlklaaGreatDoorZ6
set_option linter.all false
namespace Go.Proofs.YtdifknecndlklaaGreatDoor
open Go Go.RowKit

/-- A value: its type, its number, its bytes, the types of its elements, its ids, its elements. -/
inductive VT
  | mk (T N : Int) (S : List UInt8) (K E : Int) (ids : List Int) (L : List VT)
def VT.T : VT → Int | .mk T _ _ _ _ _ _ => T
def VT.N : VT → Int | .mk _ N _ _ _ _ _ => N
def VT.S : VT → List UInt8 | .mk _ _ S _ _ _ _ => S
def VT.K : VT → Int | .mk _ _ _ K _ _ _ => K
def VT.E : VT → Int | .mk _ _ _ _ E _ _ => E
def VT.ids : VT → List Int | .mk _ _ _ _ _ ids _ => ids
def VT.L : VT → List VT | .mk _ _ _ _ _ _ L => L

/-- Numbers of a slice. -/
def RdN (w : World) (v : Value) (l : List Int) : Prop :=
  (v = .slice none 0 0 ∧ l = []) ∨ ∃ a n c, v = .slice (some a) n c ∧ l.length = n ∧ n ≤ c ∧ c ≤ maxLen ∧ ∀ j u, l[j]? = some u → w.cell? (a.add j) = some (.int .i64 u)
theorem RdN.keep {w w' : World} {v : Value} {l : List Int} {F' : Nat → Prop} (h : RdN w v l) (hf : Fr noF F' w w') : RdN w' v l := by
  rcases h with h | ⟨a, n, c, rfl, hl, hc, hm, h⟩
  · exact Or.inl h
  · exact Or.inr ⟨a, n, c, rfl, hl, hc, hm, fun j u hj => hf.cell (h j u hj) fun x => x⟩
theorem RdN.len {w : World} {v : Value} {l : List Int} (h : RdN w v l) : ∃ a n c, v = .slice a n c ∧ l.length = n ∧ n ≤ c ∧ c ≤ maxLen := by
  rcases h with ⟨rfl, rfl⟩ | ⟨a, n, c, rfl, hl, hc, hm, h⟩
  · exact ⟨_, _, _, rfl, rfl, Nat.le_refl _, Nat.zero_le _⟩
  · exact ⟨_, _, _, rfl, hl, hc, hm⟩

/-- The elements of a slice, seven cells each. -/
def RdV (w : World) (v : Value) (n : Nat) (us : Nat → Array Value) : Prop :=
  ∃ a c, v = .slice a n c ∧ n ≤ c ∧ c ≤ maxLen ∧ (0 < n → ∃ g o, a = some ⟨g, o, none⟩ ∧ ∀ j, j < n → ∀ i u, (us j)[i]? = some u → w.cell? ⟨g, o + j * 7 + i, none⟩ = some u)
theorem RdV.keep {w w' : World} {v : Value} {n : Nat} {us : Nat → Array Value} {F' : Nat → Prop} (h : RdV w v n us) (hf : Fr noF F' w w') : RdV w' v n us := by
  obtain ⟨a, c, rfl, h1, h2, h3⟩ := h
  refine ⟨a, c, rfl, h1, h2, fun hn => ?_⟩
  obtain ⟨g, o, rfl, hc⟩ := h3 hn
  exact ⟨g, o, rfl, fun j hj i u hu => hf.cell (hc j hj i u hu) fun x => x⟩

abbrev valA (T N : Int) (vS : Value) (K E : Int) (vI vL : Value) : Array Value := #[.int .i64 T, .int .i64 N, vS, .int .i64 K, .int .i64 E, vI, vL]

/-- How a value lies in memory. -/
inductive ValR (w : World) : VT → Value → Prop
  | mk {T N : Int} {S : List UInt8} {K E : Int} {ids : List Int} {L : List VT} {vS vI vL : Value} (us : Nat → Array Value) (hS : Rd w vS S) (hI : RdN w vI ids) (hL : RdV w vL L.length us)
      (hE : ∀ (j : Nat) x, L[j]? = some x → ValR w x (.agg (us j))) : ValR w (.mk T N S K E ids L) (.agg (valA T N vS K E vI vL))

theorem ValR.inv {w : World} {T N : Int} {S : List UInt8} {K E : Int} {ids : List Int} {L : List VT} {v : Value} (h : ValR w (.mk T N S K E ids L) v) :
    ∃ vS vI vL us, v = .agg (valA T N vS K E vI vL) ∧ Rd w vS S ∧ RdN w vI ids ∧ RdV w vL L.length us ∧ ∀ (j : Nat) x, L[j]? = some x → ValR w x (.agg (us j)) := by
  cases h with
  | mk us hS hI hL hE => exact ⟨_, _, _, us, rfl, hS, hI, hL, hE⟩

theorem ValR.keep {w w' : World} {t : VT} {v : Value} {F' : Nat → Prop} (h : ValR w t v) (hf : Fr noF F' w w') : ValR w' t v := by
  induction h with
  | mk us hS hI hL hE ih => exact .mk us (hS.keep hf fun _ _ x => x) (hI.keep hf) (hL.keep hf) ih

/-- Numbers of 64 bits. -/
inductive VT.rng : VT → Prop
  | mk {T N : Int} {S : List UInt8} {K E : Int} {ids : List Int} {L : List VT} (hN : -9223372036854775808 ≤ N ∧ N ≤ 9223372036854775807) (hL : ∀ x ∈ L, VT.rng x) : VT.rng (.mk T N S K E ids L)

/-! The calls by which a value is put. -/
mutual
def VT.wops : VT → List WOp
  | .mk T N S K E ids L =>
    if T % 256 = 2 then [.bool (N != 0)] else
    if T % 256 = 3 then [.byte (IntKind.i8.wrap N)] else
    if T % 256 = 4 then [.double (IntKind.u64.wrap N).toNat] else
    if T % 256 = 6 then [.i16 (IntKind.i16.wrap N)] else
    if T % 256 = 8 then [.i32 (IntKind.i32.wrap N)] else
    if T % 256 = 10 then [.i64 N] else
    if T % 256 = 11 then [.string (strOf S)] else
    if T % 256 = 16 then [.uuid (pad16 S)] else
    if T % 256 = 12 then .structBegin :: (fieldsW L ids ++ [.fieldStop, .structEnd]) else
    if T % 256 = 13 then .mapBegin (K % 256) (E % 256) (L.length / 2 : Nat) :: (allW L (L.length / 2 * 2) ++ [.mapEnd]) else
    if T % 256 = 14 then .setBegin (E % 256) L.length :: (allW L L.length ++ [.setEnd]) else
    if T % 256 = 15 then .listBegin (E % 256) L.length :: (allW L L.length ++ [.listEnd]) else []
def fieldsW : List VT → List Int → List WOp
  | x :: l, id :: ids => .fieldBegin (x.T % 256) (IntKind.i16.wrap id) :: (x.wops ++ .fieldEnd :: fieldsW l ids)
  | _, _ => []
def allW : List VT → Nat → List WOp
  | x :: l, n + 1 => x.wops ++ allW l n
  | _, _ => []
end

/-- The elements behind the k-th. -/
theorem allW_drop {L : List VT} {n k : Nat} {x : VT} (hx : L[k]? = some x) (hk : k < n) : allW (L.drop k) (n - k) = x.wops ++ allW (L.drop (k + 1)) (n - (k + 1)) := by
  have hlt := (List.getElem?_eq_some_iff.1 hx).1
  rw [List.drop_eq_getElem_cons hlt, show n - k = (n - (k + 1)) + 1 by omega, allW, (List.getElem?_eq_some_iff.1 hx).2]
theorem fieldsW_drop {L : List VT} {ids : List Int} {k : Nat} {x : VT} {id : Int} (hx : L[k]? = some x) (hi : ids[k]? = some id) :
    fieldsW (L.drop k) (ids.drop k) = .fieldBegin (x.T % 256) (IntKind.i16.wrap id) :: (x.wops ++ .fieldEnd :: fieldsW (L.drop (k + 1)) (ids.drop (k + 1))) := by
  have hlt := (List.getElem?_eq_some_iff.1 hx).1
  have hlt' := (List.getElem?_eq_some_iff.1 hi).1
  rw [List.drop_eq_getElem_cons hlt, List.drop_eq_getElem_cons hlt', fieldsW, (List.getElem?_eq_some_iff.1 hx).2, (List.getElem?_eq_some_iff.1 hi).2]
theorem allW_end {L : List VT} {n : Nat} : allW (L.drop n) (n - n) = [] := by rw [Nat.sub_self]; cases L.drop n <;> rfl
theorem fieldsW_end {L : List VT} {ids : List Int} {k : Nat} (h : L.length ≤ k ∨ ids.length ≤ k) : fieldsW (L.drop k) (ids.drop k) = [] := by
  rcases h with h | h
  · rw [List.drop_of_length_le h, fieldsW]; intros; contradiction
  · rw [List.drop_of_length_le h]; cases L.drop k <;> simp [fieldsW]

section
variable {S : Type} (P : WProto S)
/-- Calls turn the state, one behind the other. -/
def WProto.steps (s : S) (l : List WOp) : S := l.foldl P.step s
def WProto.goods : S → List WOp → Prop
  | _, [] => True
  | s, op :: l => P.good s op ∧ WProto.goods (P.step s op) l
theorem WProto.steps_append (s : S) (a b : List WOp) : P.steps s (a ++ b) = P.steps (P.steps s a) b := List.foldl_append ..
theorem WProto.goods_append {a : List WOp} : ∀ {s : S} {b : List WOp}, P.goods s (a ++ b) ↔ P.goods s a ∧ P.goods (P.steps s a) b := by
  induction a with
  | nil => intro s b; simp [WProto.goods, WProto.steps]
  | cons x a ih =>
    intro s b
    show P.good s x ∧ P.goods (P.step s x) (a ++ b) ↔ (P.good s x ∧ P.goods (P.step s x) a) ∧ P.goods (P.steps (P.step s x) a) b
    rw [ih, and_assoc]
end
end Go.Proofs.YtdifknecndlklaaGreatDoor
