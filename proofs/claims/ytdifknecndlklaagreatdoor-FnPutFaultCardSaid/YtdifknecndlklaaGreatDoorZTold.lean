/- laws.told: a value of the package, built anew for the specification. -/
import Derived.Test.YtdifknecndlklaaGreatDoorZQ
import Derived.Test.YtdifknecndlklaaGreatDoorZPutA
set_option linter.all false
namespace Go.Proofs.YtdifknecndlklaaGreatDoor
open Go Go.RowKit
set_option maxHeartbeats 4000000
set_option maxRecDepth 100000

theorem RdN.keepF {w w' : World} {v : Value} {l : List Int} {F F' : Nat → Prop} (h : RdN w v l) (hf : Fr F F' w w') (hn : ∀ k, vblk v k → ¬ F k) : RdN w' v l := by
  rcases h with h | ⟨a, n, c, rfl, hl, hc, hm, h⟩
  · exact Or.inl h
  · refine Or.inr ⟨a, n, c, rfl, hl, hc, hm, fun j u hj => hf.cell (h j u hj) ?_⟩
    have hlt : j < l.length := (List.getElem?_eq_some_iff.1 hj).1
    obtain ⟨m, rfl⟩ : ∃ m, n = m + 1 := ⟨n - 1, by omega⟩
    rw [block_add']
    exact hn _ rfl
theorem RdV.keepF {w w' : World} {v : Value} {n : Nat} {us : Nat → Array Value} {F F' : Nat → Prop} (h : RdV w v n us) (hf : Fr F F' w w') (hn : ∀ k, vblk v k → ¬ F k) : RdV w' v n us := by
  obtain ⟨a, c, rfl, h1, h2, h3⟩ := h
  refine ⟨a, c, rfl, h1, h2, fun hp => ?_⟩
  obtain ⟨g, o, rfl, hc⟩ := h3 hp
  obtain ⟨m, rfl⟩ : ∃ m, n = m + 1 := ⟨n - 1, by omega⟩
  exact ⟨g, o, rfl, fun j hj i u hu => hf.cell (hc j hj i u hu) (hn _ rfl)⟩

/-- How a value lies, in the blocks F. -/
inductive ValF (w : World) (F : Nat → Prop) : VT → Value → Prop
  | mk {T N : Int} {S : List UInt8} {K E : Int} {ids : List Int} {L : List VT} {vS vI vL : Value} (us : Nat → Array Value) (hS : Rd w vS S) (hI : RdN w vI ids) (hL : RdV w vL L.length us)
      (fS : ∀ k, vblk vS k → F k) (fI : ∀ k, vblk vI k → F k) (fL : ∀ k, vblk vL k → F k)
      (hE : ∀ (j : Nat) x, L[j]? = some x → ValF w F x (.agg (us j))) : ValF w F (.mk T N S K E ids L) (.agg (valA T N vS K E vI vL))
theorem ValF.inv {w : World} {F : Nat → Prop} {T N : Int} {S : List UInt8} {K E : Int} {ids : List Int} {L : List VT} {v : Value} (h : ValF w F (.mk T N S K E ids L) v) :
    ∃ vS vI vL us, v = .agg (valA T N vS K E vI vL) ∧ Rd w vS S ∧ RdN w vI ids ∧ RdV w vL L.length us ∧ (∀ k, vblk vS k → F k) ∧ (∀ k, vblk vI k → F k) ∧ (∀ k, vblk vL k → F k) ∧ ∀ (j : Nat) x, L[j]? = some x → ValF w F x (.agg (us j)) := by
  cases h with
  | mk us hS hI hL fS fI fL hE => exact ⟨_, _, _, us, rfl, hS, hI, hL, fS, fI, fL, hE⟩
theorem ValF.plain {w : World} {F : Nat → Prop} {x : VT} {v : Value} (h : ValF w F x v) : ValR w x v := by
  induction h with
  | mk us hS hI hL fS fI fL hE ih => exact .mk us hS hI hL ih
theorem ValF.keep {w w' : World} {F G G' : Nat → Prop} {x : VT} {v : Value} (h : ValF w F x v) (hf : Fr G G' w w') (hn : ∀ k, F k → ¬ G k) : ValF w' F x v := by
  induction h with
  | mk us hS hI hL fS fI fL hE ih => exact .mk us (hS.keep hf fun k hk => hn k (fS k hk)) (hI.keepF hf fun k hk => hn k (fI k hk)) (hL.keepF hf fun k hk => hn k (fL k hk)) fS fI fL ih
theorem ValF.mono {w : World} {F G : Nat → Prop} {x : VT} {v : Value} (h : ValF w F x v) (hn : ∀ k, F k → G k) : ValF w G x v := by
  induction h with
  | mk us hS hI hL fS fI fL hE ih => exact .mk us hS hI hL (fun k hk => hn k (fS k hk)) (fun k hk => hn k (fI k hk)) (fun k hk => hn k (fL k hk)) ih
theorem RdN.blt {w : World} {v : Value} {l : List Int} (h : RdN w v l) : ∀ k, vblk v k → k < w.heap.size := by
  rcases h with ⟨rfl, rfl⟩ | ⟨a, n, c, rfl, hl, hc, hm, h⟩
  · intro k hk; cases hk
  · intro k hk
    cases n with
    | zero => cases hk
    | succ m =>
      have e : a.block = k := hk
      have hj : l[0]? = some l[0] := List.getElem?_eq_getElem (by omega)
      have := World.block_lt_of_cell? w _ (h 0 _ hj)
      rw [block_add'] at this
      omega
theorem RdV.blt {w : World} {v : Value} {n : Nat} {us : Nat → Array Value} (h : RdV w v n us) (hs : 0 < n → (us 0)[0]? ≠ none) : ∀ k, vblk v k → k < w.heap.size := by
  obtain ⟨a, c, rfl, h1, h2, h3⟩ := h
  intro k hk
  cases n with
  | zero => cases a <;> cases hk
  | succ m =>
    obtain ⟨g, o, rfl, hc⟩ := h3 (by omega)
    have e : g = k := hk
    obtain ⟨u, hu⟩ := Option.ne_none_iff_exists'.1 (hs (by omega))
    have : g < w.heap.size := World.block_lt_of_cell? w _ (hc 0 (by omega) 0 u hu)
    omega
theorem ValR.fresh {w : World} {x : VT} {v : Value} (h : ValR w x v) : ValF w (fun k => k < w.heap.size) x v := by
  induction h with
  | @mk T N S K E ids L vS vI vL us hS hI hL hE ih =>
    refine .mk us hS hI hL hS.blt hI.blt (hL.blt fun hp => ?_) ih
    obtain ⟨sa, sn, sc, ia, il, ic, la, ll, lc, he⟩ := (hE 0 _ (List.getElem?_eq_getElem hp)).sl
    injection he with he
    rw [he]
    simp
theorem ValF.lt {w : World} {F : Nat → Prop} {x : VT} {v : Value} (h : ValF w F x v) : ValF w (fun k => F k ∧ k < w.heap.size) x v := by
  induction h with
  | @mk T N S K E ids L vS vI vL us hS hI hL fS fI fL hE ih =>
    refine .mk us hS hI hL (fun k hk => ⟨fS k hk, hS.blt k hk⟩) (fun k hk => ⟨fI k hk, hI.blt k hk⟩) (fun k hk => ⟨fL k hk, hL.blt (fun hp => ?_) k hk⟩) ih
    obtain ⟨sa, sn, sc, ia, il, ic, la, ll, lc, he⟩ := (hE 0 _ (List.getElem?_eq_getElem hp)).plain.sl
    injection he with he
    rw [he]
    simp

/-- Rows of sevens. -/
theorem sevens {rs : List (Array Value)} : (∀ (j : Nat) a, rs[j]? = some a → a.size = 7) → ∀ (j i : Nat) a u, rs[j]? = some a → a[i]? = some u → (rs.flatMap Array.toList)[j * 7 + i]? = some u := by
  induction rs with
  | nil => intro _ j i a u h; simp at h
  | cons r rs ih =>
    intro hs j i a u hj hi
    have h7 := hs 0 r rfl
    rw [List.flatMap_cons]
    cases j with
    | zero =>
      simp only [List.getElem?_cons_zero, Option.some.injEq] at hj
      subst hj
      have hlt := (Array.getElem?_eq_some_iff.1 hi).1
      rw [List.getElem?_append_left (by simp; omega)]
      simpa using hi
    | succ j =>
      rw [List.getElem?_append_right (by simp; omega), show (j + 1) * 7 + i - r.toList.length = j * 7 + i by simp; omega]
      exact ih (fun j a h => hs (j + 1) a h) j i a u hj hi

/-- A new value, its elements so far. -/
structure TAt (w : World) (b : Nat) (cs : Array Value) (cz : Array Value) (cn : Value → Array Value) (L : List VT) (k : Nat) (X : World) (vl : Value) (rs : List (Array Value)) : Prop where
  fr : Fr noF noF w X
  box0 : X.heap[w.heap.size]? = some (.cells cs 46 (0, 0))
  box1 : X.heap[w.heap.size + 1]? = some (.cells cz TSVal (0, 0))
  box2 : X.heap[w.heap.size + 1 + 1]? = some (.cells (cn vl) TSVal (0, 0))
  own : X.ownsRow (w.heap.size + 1 + 1 + 1) TSVal 7 vl k (rs.flatMap Array.toList)
  len : rs.length = k
  el : ∀ (j : Nat) a, rs[j]? = some a → a.size = 7 ∧ ∃ x, L[j]? = some x ∧ ValF X (fun n => (n < b ∨ w.heap.size + 1 + 1 + 1 ≤ n) ∧ vl.ownBlock ≠ some n) x (.agg a)

theorem grown_fr {Y Z : World} {v : Value} (h : Y.grownBy Z v.ownBlock) : Fr (fun k => v.ownBlock = some k) (fun k => v.ownBlock = some k) Y Z :=
  ⟨h.os, h.tape, h.output, h.size, fun k hk hn => h.block k hk fun e => hn e.symm, fun _ _ x => x⟩

/-- One more. -/
theorem TAt.app {w : World} {b : Nat} {cs cz : Array Value} {f : Value → Array Value} {L : List VT} {k : Nat} {X Y Z : World} {vl : Value} {rs : List (Array Value)} {a : Array Value} {x : VT} {g cap : Nat} (hbw : b ≤ w.heap.size)
    (hcn : ∀ v v', (f v).setIfInBounds 6 v' = f v') (h6 : ∀ v, (f v)[6]? = some v)
    (h : TAt w b cs cz f L k X vl rs) (hY : Fr noF noF X Y) (ha : a.size = 7) (hx : L[k]? = some x) (hv : ValF Y (fun n => n < b ∨ X.heap.size ≤ n) x (.agg a))
    (hown : Z.ownsRow (w.heap.size + 1 + 1 + 1) TSVal 7 (.slice (some ⟨g, 0, none⟩) (k + 1) cap) (k + 1) (rs.flatMap Array.toList ++ a.toList)) (hg : Y.grownBy Z vl.ownBlock) (hl : vl.ownBlock = some g ∨ g = Y.heap.size) :
    (Z.cell? ⟨w.heap.size + 1 + 1, 6, none⟩ = some vl ∧ Z.frozen? ⟨w.heap.size + 1 + 1, 6, none⟩ = false ∧ Z.heap[w.heap.size]? = some (.cells cs 46 (0, 0)) ∧ Fr noF noF w Z) ∧ TAt w b cs cz f L (k + 1) (Z.setCell ⟨w.heap.size + 1 + 1, 6, none⟩ (.slice (some ⟨g, 0, none⟩) (k + 1) cap)) (.slice (some ⟨g, 0, none⟩) (k + 1) cap) (rs ++ [a]) := by
  have hvl : ∀ n, vl.ownBlock = some n → w.heap.size + 1 + 1 + 1 ≤ n ∧ n < X.heap.size := fun n hn => by
    obtain ⟨cur, hc⟩ := owns_block h.own hn
    refine ⟨?_, lt_heap hc⟩
    rcases h.own.2 with ⟨rfl, _⟩ | ⟨g', cap', cur', rfl, hb, _⟩
    · cases hn
    · injection hn with hn
      have hn : g' = n := hn
      omega
  have hXY := hY.size
  have hYZ := hg.size
  have l2 := lt_heap h.box2
  have st : ∀ n, n < w.heap.size + 1 + 1 + 1 → Z.heap[n]? = X.heap[n]? := fun n hn =>
    (hg.block n (by omega) fun e => by have := (hvl n e.symm).1; omega).trans (hY.keep n (by omega) fun x => x)
  have z2 : Z.heap[w.heap.size + 1 + 1]? = some (.cells (f vl) TSVal (0, 0)) := (st _ (by omega)).trans h.box2
  have hgX : w.heap.size + 1 + 1 + 1 ≤ g := by
    rcases hl with hl | rfl
    · exact (hvl _ hl).1
    · omega
  have hs : ∀ n, n ≠ w.heap.size + 1 + 1 → (Z.setCell ⟨w.heap.size + 1 + 1, 6, none⟩ (.slice (some ⟨g, 0, none⟩) (k + 1) cap)).heap[n]? = Z.heap[n]? := fun n hn => Below.heap_setCell _ _ _ _ hn
  have hset : Fr (fun n => n = w.heap.size + 1 + 1) (fun n => n = w.heap.size + 1 + 1) Z (Z.setCell ⟨w.heap.size + 1 + 1, 6, none⟩ (.slice (some ⟨g, 0, none⟩) (k + 1) cap)) := (Fr.refl (fun n => n = w.heap.size + 1 + 1) Z).setCell (p := ⟨w.heap.size + 1 + 1, 6, none⟩) (Or.inl rfl) _
  have hgf := grown_fr hg
  refine ⟨⟨by rw [cell_at z2, h6], free_at z2 6, (st _ (by omega)).trans h.box0, hg.os.trans (hY.os.trans h.fr.os), hg.tape.trans (hY.tape.trans h.fr.tape), hg.output.trans (hY.output.trans h.fr.output), by have := h.fr.size; omega, fun n hn _ => (st n (by omega)).trans (h.fr.keep n hn fun x => x), fun _ _ x => x⟩, ?_, ?_, ?_, ?_, ?_, by simp [h.len], ?_⟩
  · refine ⟨hset.os.trans (hg.os.trans (hY.os.trans h.fr.os)), hset.tape.trans (hg.tape.trans (hY.tape.trans h.fr.tape)), hset.output.trans (hg.output.trans (hY.output.trans h.fr.output)), by have := h.fr.size; have := hset.size; omega, fun n hn _ => ?_, fun _ _ x => x⟩
    exact (hs n (by omega)).trans ((st n (by omega)).trans (h.fr.keep n hn fun x => x))
  · exact (hs _ (by omega)).trans ((st _ (by omega)).trans h.box0)
  · exact (hs _ (by omega)).trans ((st _ (by omega)).trans h.box1)
  · have := setCell_at (i := 6) z2 (.slice (some ⟨g, 0, none⟩) (k + 1) cap)
    rw [hcn] at this
    exact this
  · have hfm : (rs ++ [a]).flatMap Array.toList = rs.flatMap Array.toList ++ a.toList := by simp
    rw [hfm]
    exact owns_keep hown fun n hn => hs n (by injection hn with hn; have : g = n := hn; omega)
  · intro j a' hj
    have hkeep : ∀ x' v', ValF Y (fun n => ((n < b ∨ w.heap.size + 1 + 1 + 1 ≤ n) ∧ vl.ownBlock ≠ some n) ∧ n < Y.heap.size) x' v' → ValF (Z.setCell ⟨w.heap.size + 1 + 1, 6, none⟩ (.slice (some ⟨g, 0, none⟩) (k + 1) cap)) (fun n => (n < b ∨ w.heap.size + 1 + 1 + 1 ≤ n) ∧ (Value.slice (some ⟨g, 0, none⟩) (k + 1) cap).ownBlock ≠ some n) x' v' := fun x' v' hv' =>
      ((hv'.keep hgf fun n hn e => hn.1.2 e).keep hset fun n hn e => by
        have e : n = w.heap.size + 1 + 1 := e
        rcases hn.1.1 with h | h <;> omega).mono fun n hn => ⟨hn.1.1, fun e => by
          injection e with e
          have e : g = n := e
          rcases hl with hl | hl
          · exact hn.1.2 (e ▸ hl)
          · have := hn.2; omega⟩
    rcases Nat.lt_or_ge j k with hlt | hge
    · rw [List.getElem?_append_left (by rw [h.len]; exact hlt)] at hj
      obtain ⟨h7, x', hx', hv'⟩ := h.el j a' hj
      exact ⟨h7, x', hx', hkeep _ _ (hv'.keep hY fun _ _ x => x).lt⟩
    · have hjk : j = k := by
        have := (List.getElem?_eq_some_iff.1 hj).1
        simp [h.len] at this
        omega
      subst hjk
      rw [List.getElem?_append_right (by rw [h.len]; omega), h.len, Nat.sub_self] at hj
      injection hj with hj
      subst hj
      exact ⟨ha, x, hx, hkeep _ _ (hv.lt.mono fun n hn => ⟨⟨by have := h.fr.size; have := lt_heap h.box2; omega, fun e => by have := hvl n e; omega⟩, hn.2⟩)⟩

theorem TAt.quiet {w : World} {b : Nat} {cs cz : Array Value} {f : Value → Array Value} {L : List VT} {k : Nat} {X Y : World} {vl : Value} {rs : List (Array Value)} (h : TAt w b cs cz f L k X vl rs) (hY : Fr noF noF X Y) : TAt w b cs cz f L k Y vl rs :=
  ⟨h.fr.trans hY, hY.block h.box0 fun x => x, hY.block h.box1 fun x => x, hY.block h.box2 fun x => x, owns_keep h.own fun n hn => by
    obtain ⟨cur, hc⟩ := owns_block h.own hn
    exact hY.keep n (lt_heap hc) fun x => x, h.len, fun j a hj => by
    obtain ⟨h1, x, h2, h3⟩ := h.el j a hj
    exact ⟨h1, x, h2, h3.keep hY fun _ _ x => x⟩⟩
/-- At the end. -/
theorem TAt.val {w : World} {b : Nat} {cs cz : Array Value} {f : Value → Array Value} {L : List VT} {k : Nat} {X : World} {vl : Value} {rs : List (Array Value)} (h : TAt w b cs cz f L k X vl rs) (hk : k = L.length) (hb : b ≤ w.heap.size) {T N K E : Int} {S : List UInt8} {ids : List Int} {vS vI : Value}
    (hS : Rd w vS S) (hI : RdN w vI ids) (fS : ∀ k, vblk vS k → k < b) (fI : ∀ k, vblk vI k → k < b) : ValF X (fun n => n < b ∨ w.heap.size + 1 + 1 + 1 ≤ n) (.mk T N S K E ids L) (.agg (valA T N vS K E vI vl)) := by
  refine .mk (fun j => rs[j]?.getD #[]) (hS.keep h.fr fun _ _ x => x) (hI.keep h.fr) ?_ (fun n hn => Or.inl (fS n hn)) (fun n hn => Or.inl (fI n hn)) ?_ ?_
  · subst hk
    rcases h.own.2 with ⟨rfl, h0⟩ | ⟨g, cap, cur, rfl, hbg, hg, h1, h2, h3, h4⟩
    · rw [h0]
      exact ⟨none, 0, rfl, Nat.le_refl _, Nat.zero_le _, fun h => absurd h (by decide)⟩
    · refine ⟨some ⟨g, 0, none⟩, cap, rfl, h1, h2, fun _ => ⟨g, 0, rfl, fun j hj i u hu => ?_⟩⟩
      have hjl : j < rs.length := by rw [h.len]; exact hj
      have hjr : rs[j]? = some rs[j] := List.getElem?_eq_getElem hjl
      have hu : (rs[j]?.getD #[])[i]? = some u := hu
      rw [hjr] at hu
      have := sevens (fun j a ha => (h.el j a ha).1) j i _ u hjr hu
      rw [← h4, List.getElem?_take] at this
      split at this
      · rw [cell_at hg, Nat.zero_add]
        simpa using this
      · cases this
  · intro n hn
    refine Or.inr ?_
    rcases h.own.2 with ⟨rfl, h0⟩ | ⟨g, cap, cur, rfl, hbg, hg, h1, h2, h3, h4⟩
    · cases hn
    · cases k with
      | zero => cases hn
      | succ m =>
        have e : g = n := hn
        omega
  · intro j x hj
    have hlt := (List.getElem?_eq_some_iff.1 hj).1
    have hjl : j < rs.length := by rw [h.len, hk]; exact hlt
    have hjr : rs[j]? = some rs[j] := List.getElem?_eq_getElem hjl
    obtain ⟨_, x', hx', hv⟩ := h.el j _ hjr
    rw [hj] at hx'
    injection hx' with hx'
    subst hx'
    show ValF X _ x (.agg (rs[j]?.getD #[]))
    rw [hjr]
    exact hv.mono fun n hn => by omega
end Go.Proofs.YtdifknecndlklaaGreatDoor
