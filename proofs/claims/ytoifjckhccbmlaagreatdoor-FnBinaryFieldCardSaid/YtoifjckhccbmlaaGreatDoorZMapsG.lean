/- FnBinaryMaps: walked, where the begin is written and read. -/
import Derived.OwnWalk
import Derived.Test.YtoifjckhccbmlaaGreatDoorZMapsF
import Derived.Test.YtoifjckhccbmlaaGreatDoorZFrg
import Derived.Test.YtoifjckhccbmlaaGreatDoorZListsG
set_option linter.all false
namespace Go.Proofs.YtoifjckhccbmlaaGreatDoor
open Go Go.RowKit
set_option maxHeartbeats 40000000
set_option maxRecDepth 100000

theorem joined2 (l1 l2 : List UInt8) (h1 : l1.length ≤ 1000000) (h2 : l2.length ≤ 1000000) {X : World} {g : Nat} {a1 : Option Addr} {n1 c1 : Nat} {a2 : Option Addr} {n2 c2 : Nat} (hg : X.heap[g]? = some (.cells #[.slice a1 n1 c1, .slice a2 n2 c2] 23 (0, 0))) (r1 : Rd X (.slice a1 n1 c1) l1) (r2 : Rd X (.slice a2 n2 c2) l2) :
    Calls Tryz.prog 28 #[.slice (some ⟨g, 0, none⟩) 2 2] X (fun e w' => ∃ a n c, e = .returned (.slice a n c) ∧ Rd w' (.slice a n c) (l1 ++ l2) ∧ Fr noF noF X w') := by
  refine (L_joined g 2 [.slice a1 n1 c1, .slice a2 n2 c2] [l1, l2] X (fun i v hv => by rw [cell_at hg]; simpa using hv) (fun i v l hv' hl' => by
    match i, hv', hl' with
    | 0, hv', hl' => simp at hv' hl'; subst hv' hl'; exact r1
    | 1, hv', hl' => simp at hv' hl'; subst hv' hl'; exact r2) rfl rfl (by decide) (fun l hl' => by simp at hl'; rcases hl' with rfl | rfl <;> omega) (fun k => by
      match k with
      | 0 => simp
      | 1 => simp; omega
      | k + 2 => simp; omega)).mono ?_
  rintro e w' ⟨v, rfl, ho, hf⟩
  have hr : Rd w' v (l1 ++ l2) := by simpa using ho.rd
  obtain ⟨a, n, c, rfl, -⟩ := hr.len
  exact ⟨a, n, c, rfl, hr, hf⟩

theorem Rd_two {X : World} {g : Nat} {x y : Int} {u v : UInt8} (hx : x = u.toNat) (hy : y = v.toNat) (hg : X.heap[g]? = some (.cells #[.int .u8 x, .int .u8 y] U8 (0, 0))) : Rd X (.slice (some ⟨g, 0, none⟩) 2 2) [u, v] := by
  subst hx hy
  refine Or.inr ⟨⟨g, 0, none⟩, 2, 2, rfl, rfl, by decide, by decide, fun i z hi => ?_⟩
  match i, hi with
  | 0, hi => simp at hi; subst hi; rw [Lib.addr_add, cell_at hg]; rfl
  | 1, hi => simp at hi; subst hi; rw [Lib.addr_add, cell_at hg]; rfl

theorem upon_make {o : Oper} {a : Act} {next : Act → World → Prop} {Q : Exit → Act → World → Prop} (w : World) (n : Nat) (L : Int) (hL : L = (n : Int)) (hn : n ≤ 200000)
    (hK : ∀ M, Fr noF noF w M → Rd M (.slice (some ⟨w.heap.size, 0, none⟩) n n) (List.replicate n 0) → next (a.put o.dst (.slice (some ⟨w.heap.size, 0, none⟩) n n)) M) :
    Oper.upon Tryz.prog o a next Q ((Sem.run Tryz.prog (Instr.makeSlice 23 (.int .i64 L) (.int .i64 L)) w).andThen fun a w' => Result.ok (Next.value a) w') := by
  obtain ⟨i0, hi, hz0, hz1, hz2⟩ := info_parts info_u8
  obtain ⟨w', hrun, r1, r2⟩ := run_make_full (P := Tryz.prog) w w.heap.size 23 U8 i0 (.int .u8 0) 1 Tryz.underlying23 hi hz0 hz1 .i64 .i64 n (by rw [hz2]; omega) (by unfold maxLen; omega) (Nat.le_refl _)
  subst hL
  rw [hrun]
  exact hK w' ((Fr.refl noF w).grown r2 (fun k hk => by cases hk)) (zeros_rd (by rw [Nat.mul_one] at r1; exact r1))

theorem FnBinaryMaps_main (c : ConfV) (hcon : c.con ≤ 2147483647) (k t : Int) (hk : isTy k) (hty : isTy t) (n : Nat) (hn : n ≤ 4096) (tv : Value) (tail : List UInt8) (w : World) (ht : Rd w tv tail) (hl : tail.length ≤ 65536) : Calls Tryz.prog 11 #[c.val, .int .i64 k, .int .i64 t, .int .u16 n, tv] w fun e w' => e = .returned (.bool true) ∧ Fr noF noF w w' := by
  obtain ⟨ta, tn, tc, rfl, htn⟩ := ht.len
  have HK := Lib.hid L_known
  have HT1 := Lib.hid (L_isType_yes k hk)
  have HT := Lib.hid (L_isType_yes t hty)
  have HY := Lib.hid (L_by 0 c)
  have HW := Lib.hid (L_isWide c)
  have hrl : (tail ++ List.replicate (32 * n) (0 : UInt8)).length ≤ 200000 := by rw [List.length_append, List.length_replicate]; omega
  have hal : Wide c → ∀ X wv rv, Rd X wv (b8 k :: b8 t :: be4 n) → Rd X rv (tail ++ List.replicate (32 * n) 0) → Calls Tryz.prog 35 #[({ c with proto := 0 } : ConfV).val, (mapS k t n).val, wv, rv, .agg (({ k := k, t := t, sz := n } : GotD).cells 0 (.slice none 0 0))] X fun e w' => e = .returned (.bool true) ∧ Fr noF noF X w' := fun hw X wv rv hX hr => by
    have h := map7 (c := { c with proto := 0 }) hw hcon k t hk hty n hn (tail ++ List.replicate (32 * n) 0) (by rw [List.length_append, List.length_replicate]; omega) (by omega)
    exact L_alone { c with proto := 0 } (show (0 : Int) ≠ 1 by decide) (mapS k t n) wv rv (.slice none 0 0) _ _ { k := k, t := t, sz := n } X hX hr (Or.inl ⟨rfl, rfl⟩) (Nat.zero_le _) (Or.inl ⟨rfl, rfl⟩) h.1 h.2 (by simp only [List.length_cons, be4_length]; omega)
  have hg : ∀ X, Calls Tryz.prog 36 #[.int .i64 n, .int .i64 4] X (NewR (be4 n) X) := fun X => by
    have := L_big n 4 (by decide) X
    rw [bigB_4] at this
    exact this
  have HI := Lib.hid (show IntKind.i64.wrap (32 * (n : Int)) = ((32 * n : Nat) : Int) by rw [w64]; unfold wrap64; omega)
  have HLE := Lib.hid (show 32 * n ≤ 200000 by omega)
  have hj1 : ∀ (X : World) (g : Nat) (a1 : Option Addr) (n1 c1 : Nat) (a2 : Option Addr) (n2 c2 : Nat), X.heap[g]? = some (.cells #[.slice a1 n1 c1, .slice a2 n2 c2] 23 (0, 0)) → Rd X (.slice a1 n1 c1) [b8 k, b8 t] → Rd X (.slice a2 n2 c2) (be4 n) →
      Calls Tryz.prog 28 #[.slice (some ⟨g, 0, none⟩) 2 2] X (fun e w' => ∃ a n' c, e = .returned (.slice a n' c) ∧ Rd w' (.slice a n' c) (b8 k :: b8 t :: be4 n) ∧ Fr noF noF X w') := fun X g a1 n1 c1 a2 n2 c2 => joined2 [b8 k, b8 t] (be4 n) (by simp) (by rw [be4_length]; decide)
  have hj2 := fun (X : World) (g : Nat) (a1 : Option Addr) (n1 c1 : Nat) (a2 : Option Addr) (n2 c2 : Nat) => joined2 tail (List.replicate (32 * n) (0 : UInt8)) (by omega) (by rw [List.length_replicate]; omega) (X := X) (g := g) (a1 := a1) (n1 := n1) (c1 := c1) (a2 := a2) (n2 := n2) (c2 := c2)
  have HJ1 := Lib.hid hj1
  have HJ2 := Lib.hid hj2
  obtain ⟨pr, pl, sr, sw, ms, co, fr⟩ := c
  have HA := Lib.hid (show Wide ⟨pr, pl, sr, sw, ms, co, fr⟩ → ∀ X wv rv, Rd X wv (b8 k :: b8 t :: be4 n) → Rd X rv (tail ++ List.replicate (32 * n) 0) → Calls Tryz.prog 35 #[.agg #[.int .i64 0, .bool pl, .bool sr, .bool sw, .int .i32 ms, .int .i32 co, .int .i32 fr], .agg #[.int .i64 7, .int .i64 t, .int .i64 k, .int .i64 n, .int .i64 0, .int .i64 0, .slice none 0 0], wv, rv, .agg #[.int .i64 0, .int .i64 t, .int .i64 k, .int .i64 n, .int .i64 0, .int .i64 0, .slice none 0 0]] X (fun e w' => e = .returned (.bool true) ∧ Fr noF noF X w') from hal)
  have q0 : ¬ (65536 : Int) < (tn : Int) := by omega
  have q1 : ¬ (2147483647 : Int) < (tn : Int) := by omega
  have q2 : ¬ (4096 : Int) < (n : Int) := by omega
  have q3 : (0 : Int) ≤ (n : Int) := by omega
  have q4 : (n : Int) ≤ 4096 := by omega
  have hwn : IntKind.i64.wrap (n : Int) = (n : Int) := by rw [w64]; unfold wrap64; omega
  have HG := Lib.hid hg
  have HTL := Lib.hid ht
  clear ht hl htn hty hk hal hg hcon hn hrl hj1 hj2
  go_enter Tryz.func11, Tryz.ntmps11
  go_wp2_with (go_at_call 37; (with_reducible first | refine (HT1.out _).mono ?_ | refine (HT.out _).mono ?_); rintro e w' ⟨rfl, rfl⟩)
  (with_reducible refine (HW.out _).mono ?_)
  rintro e w1 ⟨b, rfl, hb, hf⟩
  have hbx := hf.block (alloc_new w _) fun x => x
  have H1 := Lib.hid (And.intro (((Fr.refl noF w).alloc _).trans hf) hbx)
  have c0 := cell_at hbx 0; have c1 := cell_at hbx 1; have c2 := cell_at hbx 2; have c3 := cell_at hbx 3; have c4 := cell_at hbx 4; have c5 := cell_at hbx 5; have c6 := cell_at hbx 6; have ff := free_at hbx
  simp only [List.getElem?_toArray, List.getElem?_cons_zero, List.getElem?_cons_succ] at c0 c1 c2 c3 c4 c5 c6
  clear hf hbx
  cases b
  · clear hb
    go_wp2_with fail
    (with_reducible refine (HK.out _).mono ?_)
    rintro e w2 ⟨rfl, hf⟩
    have HX := Lib.hid (H1.out.1.trans hf)
    clear hf c0 c1 c2 c3 c4 c5 c6 ff
    go_wp2
    go_ret
    exact ⟨rfl, HX.out⟩
  · have HAl := Lib.hid (HA.out (hb.1 rfl))
    clear hb HA
    go_wp2_with fail
    refine (HY.out _).mono ?_
    rintro e w2 ⟨rfl, hf⟩
    have hbx := hf.block H1.out.2 fun x => x
    have hby7 := store7_at hbx (.int .i64 0) (.bool pl) (.bool sr) (.bool sw) (.int .i32 ms) (.int .i32 co) (.int .i32 fr)
    have hfW : Fr noF noF w (store7 w2 w.heap.size (.int .i64 0) (.bool pl) (.bool sr) (.bool sw) (.int .i32 ms) (.int .i32 co) (.int .i32 fr)) := store7_fr (H1.out.1.trans hf) (Or.inr (Nat.le_refl _)) (.int .i64 0) (.bool pl) (.bool sr) (.bool sw) (.int .i32 ms) (.int .i32 co) (.int .i32 fr)
    have htW : Rd (store7 w2 w.heap.size (.int .i64 0) (.bool pl) (.bool sr) (.bool sw) (.int .i32 ms) (.int .i32 co) (.int .i32 fr)) (.slice ta tn tc) tail := HTL.out.keep hfW fun _ _ x => x
    clear c0 c1 c2 c3 c4 c5 c6 ff
    have c0 := cell_at hbx 0; have c1 := cell_at hbx 1; have c2 := cell_at hbx 2; have c3 := cell_at hbx 3; have c4 := cell_at hbx 4; have c5 := cell_at hbx 5; have c6 := cell_at hbx 6; have ff := free_at hbx
    simp only [List.getElem?_toArray, List.getElem?_cons_zero, List.getElem?_cons_succ] at c0 c1 c2 c3 c4 c5 c6
    have hs7 : ∀ X : World, X.heap[w.heap.size]? = some (.cells #[.int .i64 0, .bool pl, .bool sr, .bool sw, .int .i32 ms, .int .i32 co, .int .i32 fr] 31 (0, 0)) → (X.cell? ⟨w.heap.size, 0, none⟩ = some (.int .i64 0) ∧ X.cell? ⟨w.heap.size, 1, none⟩ = some (.bool pl) ∧ X.cell? ⟨w.heap.size, 2, none⟩ = some (.bool sr) ∧ X.cell? ⟨w.heap.size, 3, none⟩ = some (.bool sw) ∧ X.cell? ⟨w.heap.size, 4, none⟩ = some (.int .i32 ms) ∧ X.cell? ⟨w.heap.size, 5, none⟩ = some (.int .i32 co) ∧ X.cell? ⟨w.heap.size, 6, none⟩ = some (.int .i32 fr)) := fun X hX => ⟨by rw [cell_at hX]; rfl, by rw [cell_at hX]; rfl, by rw [cell_at hX]; rfl, by rw [cell_at hX]; rfl, by rw [cell_at hX]; rfl, by rw [cell_at hX]; rfl, by rw [cell_at hX]; rfl⟩
    obtain ⟨V, hV⟩ : ∃ V, V = (store7 w2 w.heap.size (.int .i64 0) (.bool pl) (.bool sr) (.bool sw) (.int .i32 ms) (.int .i32 co) (.int .i32 fr)) := ⟨_, rfl⟩
    rw [← hV] at htW hfW hby7
    unfold store7 at hV
    have s00 := hs7 _ (drew_at hby7)
    have HS7 := Lib.hid hs7
    have HV := Lib.hid hV
    clear hs7 hf hbx hV s00
    go_wp2_with fail
    rw [← HV.out]
    have s00 := HS7.out _ (drew_at hby7)
    clear c0 c1 c2 c3 c4 c5 c6 ff
    go_region_held3 (fun w' => w'.cell? ⟨w.heap.size, 0, none⟩ = some (.int .i64 0) ∧ w'.cell? ⟨w.heap.size, 1, none⟩ = some (.bool pl) ∧ w'.cell? ⟨w.heap.size, 2, none⟩ = some (.bool sr) ∧ w'.cell? ⟨w.heap.size, 3, none⟩ = some (.bool sw) ∧ w'.cell? ⟨w.heap.size, 4, none⟩ = some (.int .i32 ms) ∧ w'.cell? ⟨w.heap.size, 5, none⟩ = some (.int .i32 co) ∧ w'.cell? ⟨w.heap.size, 6, none⟩ = some (.int .i32 fr)) (first | with_reducible assumption | ((with_reducible refine HS7.out _ ?_); (focus ((repeat (first | with_reducible assumption | with_reducible exact alloc_new _ _ | ((with_reducible refine alloc_newE ?_); (first | with_reducible rfl | (simp; done))) | with_reducible refine alloc_at ?_ | with_reducible refine drew_at ?_ | with_reducible refine Fr.block (F := noF) (F' := noF) (by with_reducible assumption) ?_ (fun x => x) | fail)); done))) | fail) (first | ((with_reducible refine (HG.out _).mono ?_); rintro e Y ⟨v, rfl, hown, hfy⟩; obtain ⟨va, vn, vc, rfl, -⟩ := hown.rd.len; have hrb := hown.rd; clear hown; have sy := HS7.out Y (by (focus ((repeat (first | with_reducible assumption | with_reducible exact alloc_new _ _ | ((with_reducible refine alloc_newE ?_); (first | with_reducible rfl | (simp; done))) | with_reducible refine alloc_at ?_ | with_reducible refine drew_at ?_ | with_reducible refine Fr.block (F := noF) (F' := noF) (by with_reducible assumption) ?_ (fun x => x) | fail)); done)))) | ((with_reducible refine upon_make _ (32 * n) _ HI.out HLE.out ?_); intro M hfm hrz; (try simp only [World.size_alloc, World.size_drew] at hrz); have sm := HS7.out M (by (focus ((repeat (first | with_reducible assumption | with_reducible exact alloc_new _ _ | ((with_reducible refine alloc_newE ?_); (first | with_reducible rfl | (simp; done))) | with_reducible refine alloc_at ?_ | with_reducible refine drew_at ?_ | with_reducible refine Fr.block (F := noF) (F' := noF) (by with_reducible assumption) ?_ (fun x => x) | fail)); done)))) | ((with_reducible refine (HJ1.out _ _ ?_ ?_ ?_ ?_ ?_ ?_ ?_ ?_ ?_).mono ?_); (rotate_left 6); (focus ((repeat (first | with_reducible assumption | with_reducible exact alloc_new _ _ | ((with_reducible refine alloc_newE ?_); (first | with_reducible rfl | (simp; done))) | with_reducible refine alloc_at ?_ | with_reducible refine drew_at ?_ | with_reducible refine Fr.block (F := noF) (F' := noF) (by with_reducible assumption) ?_ (fun x => x) | fail)); done)); ((with_reducible refine Rd_two (u8_wrap_b8 k) (u8_wrap_b8 t) ?_); (focus ((repeat (first | with_reducible assumption | with_reducible exact alloc_new _ _ | ((with_reducible refine alloc_newE ?_); (first | with_reducible rfl | (simp; done))) | with_reducible refine alloc_at ?_ | with_reducible refine drew_at ?_ | with_reducible refine Fr.block (F := noF) (F' := noF) (by with_reducible assumption) ?_ (fun x => x) | fail)); done))); (focus ((repeat (first | with_reducible assumption | with_reducible refine Rd.keep (F := noF) (F' := noF) ?_ (Fr.alloc (Fr.refl noF _) _) (fun _ _ x => x) | with_reducible refine Rd.keep (F := noF) (F' := noF) ?_ (Fr.drew (Fr.refl noF _)) (fun _ _ x => x) | with_reducible refine Rd.keep (F := noF) (F' := noF) ?_ (by with_reducible assumption) (fun _ _ x => x) | fail)); done)); rintro e J ⟨ja, jn, jc, rfl, hrj, hfj⟩; have sj := HS7.out J (by (focus ((repeat (first | with_reducible assumption | with_reducible exact alloc_new _ _ | ((with_reducible refine alloc_newE ?_); (first | with_reducible rfl | (simp; done))) | with_reducible refine alloc_at ?_ | with_reducible refine drew_at ?_ | with_reducible refine Fr.block (F := noF) (F' := noF) (by with_reducible assumption) ?_ (fun x => x) | fail)); done)))) | ((with_reducible refine (HJ2.out _ _ ?_ ?_ ?_ ?_ ?_ ?_ ?_ ?_ ?_).mono ?_); (rotate_left 6); (focus ((repeat (first | with_reducible assumption | with_reducible exact alloc_new _ _ | ((with_reducible refine alloc_newE ?_); (first | with_reducible rfl | (simp; done))) | with_reducible refine alloc_at ?_ | with_reducible refine drew_at ?_ | with_reducible refine Fr.block (F := noF) (F' := noF) (by with_reducible assumption) ?_ (fun x => x) | fail)); done)); (focus ((repeat (first | with_reducible assumption | with_reducible refine Rd.keep (F := noF) (F' := noF) ?_ (Fr.alloc (Fr.refl noF _) _) (fun _ _ x => x) | with_reducible refine Rd.keep (F := noF) (F' := noF) ?_ (Fr.drew (Fr.refl noF _)) (fun _ _ x => x) | with_reducible refine Rd.keep (F := noF) (F' := noF) ?_ (by with_reducible assumption) (fun _ _ x => x) | fail)); done)); (focus ((repeat (first | with_reducible assumption | with_reducible refine Rd.keep (F := noF) (F' := noF) ?_ (Fr.alloc (Fr.refl noF _) _) (fun _ _ x => x) | with_reducible refine Rd.keep (F := noF) (F' := noF) ?_ (Fr.drew (Fr.refl noF _)) (fun _ _ x => x) | with_reducible refine Rd.keep (F := noF) (F' := noF) ?_ (by with_reducible assumption) (fun _ _ x => x) | fail)); done)); rintro e J2 ⟨ja2, jn2, jc2, rfl, hrj2, hfj2⟩; have sj2 := HS7.out J2 (by (focus ((repeat (first | with_reducible assumption | with_reducible exact alloc_new _ _ | ((with_reducible refine alloc_newE ?_); (first | with_reducible rfl | (simp; done))) | with_reducible refine alloc_at ?_ | with_reducible refine drew_at ?_ | with_reducible refine Fr.block (F := noF) (F' := noF) (by with_reducible assumption) ?_ (fun x => x) | fail)); done)))) | ((with_reducible refine (HAl.out _ _ _ ?_ ?_).mono ?_); (focus ((repeat (first | with_reducible assumption | with_reducible refine Rd.keep (F := noF) (F' := noF) ?_ (Fr.alloc (Fr.refl noF _) _) (fun _ _ x => x) | with_reducible refine Rd.keep (F := noF) (F' := noF) ?_ (Fr.drew (Fr.refl noF _)) (fun _ _ x => x) | with_reducible refine Rd.keep (F := noF) (F' := noF) ?_ (by with_reducible assumption) (fun _ _ x => x) | fail)); done)); (focus ((repeat (first | with_reducible assumption | with_reducible refine Rd.keep (F := noF) (F' := noF) ?_ (Fr.alloc (Fr.refl noF _) _) (fun _ _ x => x) | with_reducible refine Rd.keep (F := noF) (F' := noF) ?_ (Fr.drew (Fr.refl noF _)) (fun _ _ x => x) | with_reducible refine Rd.keep (F := noF) (F' := noF) ?_ (by with_reducible assumption) (fun _ _ x => x) | fail)); done)); rintro e Q ⟨rfl, hfq⟩; have sq := HS7.out Q (by (focus ((repeat (first | with_reducible assumption | with_reducible exact alloc_new _ _ | ((with_reducible refine alloc_newE ?_); (first | with_reducible rfl | (simp; done))) | with_reducible refine alloc_at ?_ | with_reducible refine drew_at ?_ | with_reducible refine Fr.block (F := noF) (F' := noF) (by with_reducible assumption) ?_ (fun x => x) | fail)); done)))) | ((with_reducible refine (HK.out _).mono ?_); rintro e Z ⟨rfl, hfz⟩; have sz := HS7.out Z (by (focus ((repeat (first | with_reducible assumption | with_reducible exact alloc_new _ _ | ((with_reducible refine alloc_newE ?_); (first | with_reducible rfl | (simp; done))) | with_reducible refine alloc_at ?_ | with_reducible refine drew_at ?_ | with_reducible refine Fr.block (F := noF) (F' := noF) (by with_reducible assumption) ?_ (fun x => x) | fail)); done)))) | fail)
    all_goals go_wp2
    all_goals go_ret
    all_goals exact ⟨rfl, by (focus ((repeat (first | with_reducible exact Fr.refl _ _ | with_reducible assumption | with_reducible refine Fr.alloc ?_ _ | with_reducible refine Fr.drew ?_ | with_reducible refine Fr.drewN ?_ _ | with_reducible refine Fr.trans (F' := noF) ?_ (by with_reducible assumption) | fail)); done))⟩
end Go.Proofs.YtoifjckhccbmlaaGreatDoor
