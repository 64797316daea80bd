/- laws.FnBare: what writes nothing and takes nothing. -/
import Derived.Test.YtkfkieebcahiiaaGreatDoorZRRC
import Derived.Test.YtkfkieebcahiiaaGreatDoorZWWA
import Derived.Test.YtkfkieebcahiiaaGreatDoorZBy
import Derived.Test.YtkfkieebcahiiaaGreatDoorZ3
set_option linter.all false
namespace Go.Proofs.YtkfkieebcahiiaaGreatDoor
open Go Go.RowKit
set_option maxHeartbeats 4000000
set_option maxRecDepth 100000
set_option linter.all false

theorem flat7 : ∀ (xss : List (List Value)) (n : Nat), (∀ l ∈ xss, l.length = n) → ∀ (j i : Nat) (l : List Value) (u : Value), xss[j]? = some l → l[i]? = some u → xss.flatten[j * n + i]? = some u
  | [], n, _, j, i, l, u, h, _ => by simp at h
  | x :: xss, n, hn, 0, i, l, u, h, hi => by
    simp only [List.getElem?_cons_zero, Option.some.injEq] at h
    subst h
    have := (List.getElem?_eq_some_iff.1 hi).1
    rw [List.flatten_cons, Nat.zero_mul, Nat.zero_add, List.getElem?_append_left this]
    exact hi
  | x :: xss, n, hn, j + 1, i, l, u, h, hi => by
    have hx := hn x (List.mem_cons_self ..)
    rw [List.flatten_cons, List.getElem?_append_right (by rw [hx]; have : (j + 1) * n = j * n + n := Nat.succ_mul j n; omega), hx]
    have : (j + 1) * n + i - n = j * n + i := by have : (j + 1) * n = j * n + n := Nat.succ_mul j n; omega
    rw [this]
    exact flat7 xss n (fun l hl => hn l (List.mem_cons_of_mem _ hl)) j i l u (by simpa using h) hi

theorem L_isOK (g cap n : Nat) (w : World) (hn : n ≤ 1000000) (hc : ∀ j, j < n → w.cell? ⟨g, j, none⟩ = some (.int .i64 0)) :
    Calls Tryz.prog 35 #[.slice (some ⟨g, 0, none⟩) n cap] w fun e w' => e = .returned (.bool true) ∧ w = w' := by
  have HC := Lib.hid hc
  have hn0 : (n : Int) ≤ 1000000 := by omega
  clear hc
  go_enter Tryz.func35, Tryz.ntmps35
  go_wp2_with fail
  go_loopw [3] (fun i wr => ∃ k : Nat, i = .int .i64 k ∧ k ≤ n ∧ wr = w) (fun i _ => n - (intOf i).toNat)
  case atStart => exact ⟨0, rfl, by omega, by first | rfl | trivial⟩
  case round =>
    obtain ⟨k, rfl, hk, rfl⟩ := hrel
    have hk0 : (0 : Int) ≤ (k : Int) := by omega
    by_cases hlt : k < n
    · have hk1 : (k : Int) < (n : Int) := by omega
      have d0 := HC.out k hlt
      clear hlt
      go_wp2_with fail
      go_roundw
      case rel => exact ⟨k + 1, by go_num, by omega, by first | rfl | trivial⟩
      case measure => simp [intOf]; omega
    · have hk1 : ¬ (k : Int) < (n : Int) := by omega
      clear hlt
      go_wp2
      go_ret
      exact ⟨rfl, rfl⟩

theorem L_allOK (g cap n : Nat) (w : World) (hn : n ≤ 1000000) (hc : ∀ j, j < n → w.cell? ⟨g, j * 7, none⟩ = some (.int .i64 0)) :
    Calls Tryz.prog 38 #[.slice (some ⟨g, 0, none⟩) n cap] w fun e w' => e = .returned (.bool true) ∧ w = w' := by
  have HC := Lib.hid hc
  have hn0 : (n : Int) ≤ 1000000 := by omega
  clear hc
  go_enter Tryz.func38, Tryz.ntmps38
  go_wp2_with fail
  go_loopw [3] (fun i wr => ∃ k : Nat, i = .int .i64 k ∧ k ≤ n ∧ wr = w) (fun i _ => n - (intOf i).toNat)
  case atStart => exact ⟨0, rfl, by omega, by first | rfl | trivial⟩
  case round =>
    obtain ⟨k, rfl, hk, rfl⟩ := hrel
    have hk0 : (0 : Int) ≤ (k : Int) := by omega
    by_cases hlt : k < n
    · have hk1 : (k : Int) < (n : Int) := by omega
      have d0 := HC.out k hlt
      clear hlt
      go_wp2_with fail
      go_roundw
      case rel => exact ⟨k + 1, by go_num, by omega, by first | rfl | trivial⟩
      case measure => simp [intOf]; omega
    · have hk1 : ¬ (k : Int) < (n : Int) := by omega
      clear hlt
      go_wp2
      go_ret
      exact ⟨rfl, rfl⟩

/-- A step with an operation alone. -/
abbrev opS (op : Int) : Stp := ⟨op, 0, 0, 0, 0, 0, .slice none 0 0, []⟩
abbrev bare7 : List Stp := [opS 2, opS 5, opS 8, opS 10, opS 12, opS 3, opS 1]
abbrev bareW : List WOp := [.structBegin, .fieldEnd, .mapEnd, .listEnd, .setEnd, .structEnd, .msgEnd]
theorem bare_wop : bare7.map Stp.wop = bareW.map some := rfl
theorem bare_enc (c : ConfV) : encAll c CSt.new bareW = [] := by
  unfold bareW
  simp only [encAll, WOp.encP]
  split <;> rfl
theorem bare_dep : dep 0 bareW ≠ none := by
  unfold bareW
  simp [dep]
theorem bare_rng : rngAll bareW := fun op h => by
  unfold bareW at h
  simp only [List.mem_cons, List.not_mem_nil, or_false] at h
  rcases h with rfl | rfl | rfl | rfl | rfl | rfl | rfl <;> exact trivial
abbrev gots7 : List GotD := List.replicate 7 {}
theorem bare_brun (c : ConfV) (l : List UInt8) : brun c l bare7 = some (gots7, l) := rfl
theorem bare_rrun (p m b T : Nat) (cf : Value) (c : ConfV) (l : List UInt8) : rrun (protoRC p m b T cf c) (l, CSt.new) bare7 = some (gots7, (l, CSt.new)) := rfl

theorem bare_steps {w : World} {g : Nat} {cs : Array Value} {t : TypeId} {f : Nat × Nat} (h : w.heap[g]? = some (.cells cs t f)) (hc : cs.toList = (bare7.map fun x => x.cells.toList).flatten) : RdS w noF (.slice (some ⟨g, 0, none⟩) 7 7) bare7 := by
  refine Or.inr ⟨g, 0, 7, rfl, Nat.le_refl _, by decide, fun h => h, fun j x hj => ⟨fun i u hi => ?_, ?_, fun _ _ h => h, ?_⟩⟩
  · rw [cell_at h, ← Array.getElem?_toList, hc, Nat.zero_add]
    refine flat7 _ 7 (fun l hl => ?_) j i x.cells.toList u (by rw [List.getElem?_map, hj]; rfl) (by simpa using hi)
    simp only [List.mem_map] at hl
    obtain ⟨y, _, rfl⟩ := hl
    rfl
  · have hm := List.mem_of_getElem? hj
    simp only [List.mem_cons, List.not_mem_nil, or_false] at hm
    rcases hm with rfl | rfl | rfl | rfl | rfl | rfl | rfl <;> exact Or.inl ⟨rfl, rfl⟩
  · have hm := List.mem_of_getElem? hj
    simp only [List.mem_cons, List.not_mem_nil, or_false] at hm
    rcases hm with rfl | rfl | rfl | rfl | rfl | rfl | rfl <;> exact Nat.zero_le _

theorem kinds_at {w : World} {base : Nat} {v : Value} {n : Nat} (h : OwnI w base v (List.replicate n 0)) (hn : 0 < n) : ∃ g c, v = .slice (some ⟨g, 0, none⟩) n c ∧ ∀ j, j < n → w.cell? ⟨g, j, none⟩ = some (.int .i64 0) := by
  rcases h.2 with ⟨_, h0⟩ | ⟨g, cap, cur, rfl, _, hg, _⟩
  · simp at h0; omega
  · refine ⟨g, cap, by simp, fun j hj => ?_⟩
    have := World.ownsRow.cells h (g := g) rfl j (.int .i64 0) (by simp [icells, List.getElem?_replicate, hj])
    rw [Lib.addr_add] at this
    simpa using this
theorem gots_at {w : World} {base : Nat} {v : Value} {gs : List GotD} (h : GotsV w base v gs) (hn : 0 < gs.length) : ∃ g c, v = .slice (some ⟨g, 0, none⟩) gs.length c ∧ ∀ j, j < gs.length → w.cell? ⟨g, j * 7, none⟩ = some (.int .i64 0) := by
  obtain ⟨vs, hl, hown, _⟩ := h
  rcases hown.2 with ⟨_, h0⟩ | ⟨g, cap, cur, rfl, _, hg, _⟩
  · omega
  · refine ⟨g, cap, rfl, fun j hj => ?_⟩
    have hx : gs[j]? = some gs[j] := List.getElem?_eq_getElem hj
    have hy : vs[j]? = some (vs[j]'(by omega)) := List.getElem?_eq_getElem (by omega)
    have hz : (List.zipWith (fun g v => (GotD.cells 0 g v).toList) gs vs)[j]? = some (GotD.cells 0 gs[j] (vs[j]'(by omega))).toList := by rw [List.getElem?_zipWith, hx, hy]
    have := hown.cells (g := g) rfl (j * 7) (.int .i64 0) (by
      unfold gotCells
      have := flat7 _ 7 (fun l hl => by
        obtain ⟨i, hi, rfl⟩ := List.getElem_of_mem hl
        simp) j 0 _ (.int .i64 0) hz rfl
      simpa using this)
    rw [Lib.addr_add] at this
    simpa using this

theorem L_FnBare (c : ConfV) (tv : Value) (tail : List UInt8) (w : World) (ht : Rd w tv tail) : Calls Tryz.prog 9 #[c.val, tv] w fun e w' => e = .returned (.bool true) ∧ Fr noF noF w w' := by
  obtain ⟨ta, tn, tc, rfl, htn⟩ := ht.len
  have hw : ∀ (c : ConfV) (X : World) (g : Nat), Fr noF noF w X → RdS X noF (.slice (some ⟨g, 0, none⟩) 7 7) bare7 → Calls Tryz.prog 34 #[c.val, .slice (some ⟨g, 0, none⟩) 7 7] X (fun e w' => ∃ ba bc kg kc, e = .returned (.tuple #[.slice ba 0 bc, .slice (some ⟨kg, 0, none⟩) 7 kc]) ∧ (∀ j, j < 7 → w'.cell? ⟨kg, j, none⟩ = some (.int .i64 0)) ∧ Fr noF noF X w') := fun c X g hX hs =>
    (I_Write_ops c _ bare7 X hs (by decide) bareW bare_wop (by decide) bare_rng (fun _ => bare_dep)).mono fun e w' ⟨bv, kv, he, hb, _, hk, hf⟩ => by
      rw [bare_enc] at hb
      obtain ⟨a, n, k, rfl, hn⟩ := hb.len
      obtain rfl : 0 = n := hn
      obtain ⟨kg, kc, rfl, hkc⟩ := kinds_at hk (by decide)
      exact ⟨a, k, kg, kc, he, hkc, hf⟩
  have hr : ∀ (c : ConfV) (X : World) (g : Nat), tn ≤ 65536 → Fr noF noF w X → RdS X noF (.slice (some ⟨g, 0, none⟩) 7 7) bare7 → Calls Tryz.prog 36 #[c.val, .slice ta tn tc, .slice (some ⟨g, 0, none⟩) 7 7] X (fun e w' => ∃ gg gc, e = .returned (.tuple #[.slice (some ⟨gg, 0, none⟩) 7 gc, .int .i64 tn]) ∧ (∀ j, j < 7 → w'.cell? ⟨gg, j * 7, none⟩ = some (.int .i64 0)) ∧ Fr noF noF X w') := fun c X g hl hX hs => by
    have hcall : Calls Tryz.prog 36 #[c.val, .slice ta tn tc, .slice (some ⟨g, 0, none⟩) 7 7] X (ReadR X gots7 tail.length) := by
      by_cases hc : c.proto = 1
      · exact I_Read_C c hc _ _ bare7 tail gots7 tail X (ht.keep hX fun _ _ x => x) hs (by decide) (by unfold LIM; omega) CSt.new (fun p m b T cf => bare_rrun p m b T cf c tail)
      · exact I_Read_B c hc _ _ bare7 tail gots7 tail X (ht.keep hX fun _ _ x => x) hs (by decide) (by unfold LIM; omega) (bare_brun c tail)
    refine hcall.mono fun e w' ⟨gv, he, hg, hf⟩ => ?_
    obtain ⟨gg, gc, rfl, hgc⟩ := gots_at hg (by decide)
    exact ⟨gg, gc, by rw [he, htn]; rfl, hgc, hf⟩
  have hby := fun p => L_by p c
  have hrd : ∀ X g cs, X.heap[g]? = some (.cells cs 63 (0, 0)) → cs.toList = (bare7.map fun x => x.cells.toList).flatten → RdS X noF (.slice (some ⟨g, 0, none⟩) 7 7) bare7 := fun X g cs h1 h2 => bare_steps h1 h2
  have hcw : ∀ p : Int, ({ c with proto := p } : ConfV).val = .agg #[.int .i64 p, .bool c.plain, .bool c.sr, .bool c.sw, .int .i32 c.msg, .int .i32 c.con, .int .i32 c.fra] := fun p => rfl
  have hw2 := fun p X g hX hs => hw { c with proto := p } X g hX hs
  have hr2 := fun p X g hl hX hs => hr { c with proto := p } X g hl hX hs
  simp only [hcw] at hw2 hr2 hby
  obtain ⟨pr, pl, sr, sw, ms, co, fr⟩ := c
  have HW := Lib.hid hw2
  have HR := Lib.hid hr2
  have HBY := Lib.hid hby
  have HRD := Lib.hid hrd
  have HK := Lib.hid L_known
  have HOK := Lib.hid L_isOK
  have HAK := Lib.hid L_allOK
  have hbc := alloc_new w (.cells #[.int .i64 pr, .bool pl, .bool sr, .bool sw, .int .i32 ms, .int .i32 co, .int .i32 fr] 23 (0, 0))
  have hf1 : Fr noF noF w (w.alloc (.cells #[.int .i64 pr, .bool pl, .bool sr, .bool sw, .int .i32 ms, .int .i32 co, .int .i32 fr] 23 (0, 0))) := (Fr.refl noF w).alloc _
  have HF1 := Lib.hid hf1
  have HBC := Lib.hid hbc
  have htn0 : (0 : Int) ≤ (tn : Int) := by omega
  clear hw hr hw2 hr2 hby hrd hcw ht htn hf1 hbc
  go_enter Tryz.func9, Tryz.ntmps9
  rcases Decidable.em ((tn : Int) > 2147483647) with k0 | k0
  · go_wp2
    go_ret
    exact ⟨rfl, HF1.out⟩
  rcases Decidable.em ((tn : Int) > 65536) with k1 | k1
  · go_wp2_with fail
    (with_reducible refine (HK.out _).mono ?_)
    rintro e Z ⟨rfl, hz⟩
    have HX := Lib.hid (HF1.out.trans hz)
    clear hz
    go_wp2
    go_ret
    exact ⟨rfl, HX.out⟩
  have HTN := Lib.hid (show tn ≤ 65536 by omega)
  have q2 := new2 w (.cells #[.int .i64 pr, .bool pl, .bool sr, .bool sw, .int .i32 ms, .int .i32 co, .int .i32 fr] 23 (0, 0)) (.cells #[.int .i64 2, .int .i64 0, .int .i64 0, .int .i64 0, .int .i64 0, .int .i64 0, .slice none 0 0, .int .i64 5, .int .i64 0, .int .i64 0, .int .i64 0, .int .i64 0, .int .i64 0, .slice none 0 0, .int .i64 8, .int .i64 0, .int .i64 0, .int .i64 0, .int .i64 0, .int .i64 0, .slice none 0 0, .int .i64 10, .int .i64 0, .int .i64 0, .int .i64 0, .int .i64 0, .int .i64 0, .slice none 0 0, .int .i64 12, .int .i64 0, .int .i64 0, .int .i64 0, .int .i64 0, .int .i64 0, .slice none 0 0, .int .i64 3, .int .i64 0, .int .i64 0, .int .i64 0, .int .i64 0, .int .i64 0, .slice none 0 0, .int .i64 1, .int .i64 0, .int .i64 0, .int .i64 0, .int .i64 0, .int .i64 0, .slice none 0 0] 63 (0, 0))
  have hbx : ∀ X, Fr noF noF ((w.alloc (.cells #[.int .i64 pr, .bool pl, .bool sr, .bool sw, .int .i32 ms, .int .i32 co, .int .i32 fr] 23 (0, 0))).alloc (.cells #[.int .i64 2, .int .i64 0, .int .i64 0, .int .i64 0, .int .i64 0, .int .i64 0, .slice none 0 0, .int .i64 5, .int .i64 0, .int .i64 0, .int .i64 0, .int .i64 0, .int .i64 0, .slice none 0 0, .int .i64 8, .int .i64 0, .int .i64 0, .int .i64 0, .int .i64 0, .int .i64 0, .slice none 0 0, .int .i64 10, .int .i64 0, .int .i64 0, .int .i64 0, .int .i64 0, .int .i64 0, .slice none 0 0, .int .i64 12, .int .i64 0, .int .i64 0, .int .i64 0, .int .i64 0, .int .i64 0, .slice none 0 0, .int .i64 3, .int .i64 0, .int .i64 0, .int .i64 0, .int .i64 0, .int .i64 0, .slice none 0 0, .int .i64 1, .int .i64 0, .int .i64 0, .int .i64 0, .int .i64 0, .int .i64 0, .slice none 0 0] 63 (0, 0))) X → X.cell? ⟨w.heap.size, 0, none⟩ = some (.int .i64 pr) ∧ X.cell? ⟨w.heap.size, 1, none⟩ = some (.bool pl) ∧ X.cell? ⟨w.heap.size, 2, none⟩ = some (.bool sr) ∧ X.cell? ⟨w.heap.size, 3, none⟩ = some (.bool sw) ∧ X.cell? ⟨w.heap.size, 4, none⟩ = some (.int .i32 ms) ∧ X.cell? ⟨w.heap.size, 5, none⟩ = some (.int .i32 co) ∧ X.cell? ⟨w.heap.size, 6, none⟩ = some (.int .i32 fr) := fun X hX => by
    have e := hX.block q2.1 fun x => x
    exact ⟨cell_at e 0, cell_at e 1, cell_at e 2, cell_at e 3, cell_at e 4, cell_at e 5, cell_at e 6⟩
  have hst : ∀ X, Fr noF noF ((w.alloc (.cells #[.int .i64 pr, .bool pl, .bool sr, .bool sw, .int .i32 ms, .int .i32 co, .int .i32 fr] 23 (0, 0))).alloc (.cells #[.int .i64 2, .int .i64 0, .int .i64 0, .int .i64 0, .int .i64 0, .int .i64 0, .slice none 0 0, .int .i64 5, .int .i64 0, .int .i64 0, .int .i64 0, .int .i64 0, .int .i64 0, .slice none 0 0, .int .i64 8, .int .i64 0, .int .i64 0, .int .i64 0, .int .i64 0, .int .i64 0, .slice none 0 0, .int .i64 10, .int .i64 0, .int .i64 0, .int .i64 0, .int .i64 0, .int .i64 0, .slice none 0 0, .int .i64 12, .int .i64 0, .int .i64 0, .int .i64 0, .int .i64 0, .int .i64 0, .slice none 0 0, .int .i64 3, .int .i64 0, .int .i64 0, .int .i64 0, .int .i64 0, .int .i64 0, .slice none 0 0, .int .i64 1, .int .i64 0, .int .i64 0, .int .i64 0, .int .i64 0, .int .i64 0, .slice none 0 0] 63 (0, 0))) X → RdS X noF (.slice (some ⟨w.heap.size + 1, 0, none⟩) 7 7) bare7 := fun X hX => HRD.out X _ _ (hX.block q2.2 fun x => x) rfl
  have HB := Lib.hid hbx
  have HST := Lib.hid hst
  have HFW := Lib.hid (show Fr noF noF w ((w.alloc (.cells #[.int .i64 pr, .bool pl, .bool sr, .bool sw, .int .i32 ms, .int .i32 co, .int .i32 fr] 23 (0, 0))).alloc (.cells #[.int .i64 2, .int .i64 0, .int .i64 0, .int .i64 0, .int .i64 0, .int .i64 0, .slice none 0 0, .int .i64 5, .int .i64 0, .int .i64 0, .int .i64 0, .int .i64 0, .int .i64 0, .slice none 0 0, .int .i64 8, .int .i64 0, .int .i64 0, .int .i64 0, .int .i64 0, .int .i64 0, .slice none 0 0, .int .i64 10, .int .i64 0, .int .i64 0, .int .i64 0, .int .i64 0, .int .i64 0, .slice none 0 0, .int .i64 12, .int .i64 0, .int .i64 0, .int .i64 0, .int .i64 0, .int .i64 0, .slice none 0 0, .int .i64 3, .int .i64 0, .int .i64 0, .int .i64 0, .int .i64 0, .int .i64 0, .slice none 0 0, .int .i64 1, .int .i64 0, .int .i64 0, .int .i64 0, .int .i64 0, .int .i64 0, .slice none 0 0] 63 (0, 0))) from HF1.out.alloc _)
  clear hbx hst q2
  go_wp2_with fail
  go_loopw [6] (fun i wr => ∃ k : Nat, i = .int .i64 k ∧ k ≤ 2 ∧ Fr noF noF ((w.alloc (.cells #[.int .i64 pr, .bool pl, .bool sr, .bool sw, .int .i32 ms, .int .i32 co, .int .i32 fr] 23 (0, 0))).alloc (.cells #[.int .i64 2, .int .i64 0, .int .i64 0, .int .i64 0, .int .i64 0, .int .i64 0, .slice none 0 0, .int .i64 5, .int .i64 0, .int .i64 0, .int .i64 0, .int .i64 0, .int .i64 0, .slice none 0 0, .int .i64 8, .int .i64 0, .int .i64 0, .int .i64 0, .int .i64 0, .int .i64 0, .slice none 0 0, .int .i64 10, .int .i64 0, .int .i64 0, .int .i64 0, .int .i64 0, .int .i64 0, .slice none 0 0, .int .i64 12, .int .i64 0, .int .i64 0, .int .i64 0, .int .i64 0, .int .i64 0, .slice none 0 0, .int .i64 3, .int .i64 0, .int .i64 0, .int .i64 0, .int .i64 0, .int .i64 0, .slice none 0 0, .int .i64 1, .int .i64 0, .int .i64 0, .int .i64 0, .int .i64 0, .int .i64 0, .slice none 0 0] 63 (0, 0))) wr) (fun i _ => 2 - (intOf i).toNat)
  case atStart => exact ⟨0, rfl, by omega, Fr.refl _ _⟩
  case round =>
    obtain ⟨k, rfl, hk, hf⟩ := hrel
    by_cases hlt : k < 2
    · have hk0 : (0 : Int) ≤ (k : Int) := by omega
      have hk1 : (k : Int) < 2 := by omega
      obtain ⟨a0, a1, a2, a3, a4, a5, a6⟩ := HB.out wr hf
      go_wp2_with fail
      (with_reducible refine (HBY.out (k : Int) wr).mono ?_)
      rintro e X1 ⟨rfl, hx1⟩
      have h1 := hf.trans hx1
      clear a0 a1 a2 a3 a4 a5 a6 hx1
      go_wp2_with fail
      (with_reducible refine (HW.out (k : Int) X1 _ (HFW.out.trans h1) (HST.out X1 h1)).mono ?_)
      rintro e X2 ⟨ba, bc, kg, kc, rfl, hkc, hx2⟩
      have h2 := h1.trans hx2
      obtain ⟨a0, a1, a2, a3, a4, a5, a6⟩ := HB.out X2 h2
      clear hx2 h1
      go_wp2_with fail
      (with_reducible refine (HBY.out (k : Int) X2).mono ?_)
      rintro e X3 ⟨rfl, hx3⟩
      have h3 := h2.trans hx3
      clear a0 a1 a2 a3 a4 a5 a6 h2
      go_wp2_with fail
      (with_reducible refine (HR.out (k : Int) X3 _ HTN.out (HFW.out.trans h3) (HST.out X3 h3)).mono ?_)
      rintro e X4 ⟨gg, gc, rfl, hgc, hx4⟩
      have H4 := Lib.hid (h3.trans hx4)
      have HKC := Lib.hid (show ∀ j, j < 7 → X4.cell? ⟨kg, j, none⟩ = some (.int .i64 0) from fun j hj => (hx3.trans hx4).cell (hkc j hj) fun x => x)
      have HGC := Lib.hid hgc
      clear h3 hx3 hx4 hkc hgc
      go_wp2_with fail
      (with_reducible refine (HOK.out kg kc 7 X4 (by decide) HKC.out).mono ?_)
      rintro e X5 ⟨rfl, rfl⟩
      go_wp2_with fail
      (with_reducible refine (HAK.out gg gc 7 X4 (by decide) HGC.out).mono ?_)
      rintro e X5 ⟨rfl, rfl⟩
      go_wp2_with fail
      go_roundw
      case rel => exact ⟨k + 1, by go_num, by omega, H4.out⟩
      case measure => simp [intOf]; omega
    · have hk1 : ¬ (k : Int) < 2 := by omega
      have hf0 := HFW.out.trans hf
      clear hf
      go_wp2_with fail
      (with_reducible refine (HK.out _).mono ?_)
      rintro e Z ⟨rfl, hz⟩
      have HX := Lib.hid (hf0.trans hz)
      clear hz hf0
      go_wp2
      go_ret
      exact ⟨rfl, HX.out⟩
end Go.Proofs.YtkfkieebcahiiaaGreatDoor
