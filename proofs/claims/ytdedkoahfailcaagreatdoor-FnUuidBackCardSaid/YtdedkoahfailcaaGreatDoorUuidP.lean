/- thrift.ParseTuuid: what it reads of a text. -/
import Derived.Test.YtdedkoahfailcaaGreatDoorUuidF
import Derived.Test.YtdedkoahfailcaaGreatDoorNew
namespace Go.Proofs.YtdedkoahfailcaaGreatDoor
open Go Go.RowKit
set_option maxHeartbeats 4000000
set_option maxRecDepth 100000

abbrev TU : TypeId := 65
/-- The sixteen bytes while they are read. -/
def uL (U : List UInt8) : List Value := Lib.byteCells U ++ List.replicate (16 - U.length) (Value.int .u8 0)
abbrev jcells : Array Value := #[Value.int .i64 0, Value.int .i64 2, Value.int .i64 4, Value.int .i64 6, Value.int .i64 9, Value.int .i64 11, Value.int .i64 14, Value.int .i64 16, Value.int .i64 19, Value.int .i64 21, Value.int .i64 24, Value.int .i64 26, Value.int .i64 28, Value.int .i64 30, Value.int .i64 32, Value.int .i64 34]
theorem bat_eq (s : ByteArray) (j : Nat) (h : j < s.size) : (((s[j]'h).toNat : Nat) : Int) = bat s.data.toList j := by
  unfold bat
  have : s.data.toList.getD j 0 = s[j]'h := by
    rw [List.getD_eq_getElem?_getD, List.getElem?_eq_getElem (by simpa using h)]
    rfl
  rw [this]
theorem pair_two (s : ByteArray) (j : Nat) (h : j + 1 < s.size) : pairAt s.data.toList j = (two (((s[j]'(by omega)).toNat : Nat) : Int) (((s[j + 1]'h).toNat : Nat) : Int)).map fun x => UInt8.ofNat x.toNat := by
  rw [bat_eq, bat_eq]
  unfold pairAt two
  cases hexd (bat s.data.toList j) with
  | none => rfl
  | some a =>
    cases hexd (bat s.data.toList (j + 1)) with
    | none => rfl
    | some b => simp only [Option.map_some]; rw [Int.mul_comm]
theorem two_range {a b x : Int} (h : two a b = some x) : 0 ≤ x ∧ x < 256 := by
  unfold two at h
  cases ha : hexd a with
  | none => rw [ha] at h; cases h
  | some p =>
    cases hb : hexd b with
    | none => rw [ha, hb] at h; cases h
    | some q =>
      rw [ha, hb] at h
      injection h with h
      have := hexd_range ha
      have := hexd_range hb
      omega
theorem two_byte {a b x : Int} (h : two a b = some x) : ((UInt8.ofNat x.toNat).toNat : Int) = x := by
  have := two_range h
  rw [UInt8.toNat_ofNat']
  omega

/-- What is read of a text. -/
def ParseR (s : ByteArray) (w : World) (e : Ending) (w' : World) : Prop :=
  Fr noF noF w w' ∧ match uu s.data.toList with
    | some U => e = .returned (.tuple #[.agg (Lib.byteCells U).toArray, .nilIface])
    | none => ∃ cs p, e = .returned (.tuple #[.agg cs, .iface 178 p]) ∧ cs.size = 16 ∧ cs.all (·.oneCell') = true
theorem parse_none {s : ByteArray} {w w' : World} {cs : Array Value} {p : Value} (hu : uu s.data.toList = none) (hf : Fr noF noF w w') (hc : cs.size = 16) (ho : cs.all (·.oneCell') = true) : ParseR s w (.returned (.tuple #[.agg cs, .iface 178 p])) w' := by
  refine ⟨hf, ?_⟩
  rw [hu]
  exact ⟨cs, p, rfl, hc, ho⟩
theorem parse_some {s : ByteArray} {w w' : World} {U : List UInt8} {v : Value} (hu : uu s.data.toList = some U) (hf : Fr noF noF w w') (hv : v = .agg (Lib.byteCells U).toArray) : ParseR s w (.returned (.tuple #[v, .nilIface])) w' := by
  refine ⟨hf, ?_⟩
  rw [hu, hv]

theorem res_cell_tmp {fn : Func} {p u : Tmp} {ty : TypeId} (h : fn.results = #[.cell p ty, .tmp u]) (tmps : Array Value) (w : World) (b : Nat) (cs : Array Value) (x : Value) (hp : tmps.getD p undef = .pointer (some ⟨b, 0, none⟩)) (hu : tmps.getD u undef = x)
    (hv : (loadVar ty ⟨b, 0, none⟩).run Tryz.prog w = .ok (.agg cs) w) : (results fn tmps).run Tryz.prog w = .ok (.tuple #[.agg cs, x]) w := by
  rw [results_cell_tmp h, hp, hu]
  simp [asAddr, Result.andThen, hv]
theorem info_TU : (Tryz.prog.info? TU).map (·.size) = some 16 := by kernel_rfl
theorem uL_len (U : List UInt8) (h : U.length ≤ 16) : (uL U).length = 16 := by simp [uL, bcells_length]; omega
theorem uL_one (U : List UInt8) : ∀ v ∈ uL U, v.oneCell' = true := by
  intro v hv
  simp only [uL, List.mem_append, Lib.byteCells, List.mem_map, List.mem_replicate] at hv
  rcases hv with ⟨x, _, rfl⟩ | ⟨_, rfl⟩ <;> rfl
theorem uL_at (U : List UInt8) (k : Nat) (h : U.length = k) (hk : k < 16) : (uL U)[k]? = some (.int .u8 0) := by
  unfold uL
  rw [List.getElem?_append_right (by rw [bcells_length]; omega), bcells_length, List.getElem?_replicate]
  simp; omega
theorem one_set {L : List Value} (h : ∀ v ∈ L, v.oneCell' = true) (k : Nat) (n : Int) : ∀ v ∈ L.set k (.int .u8 n), v.oneCell' = true := by
  intro v hv
  rcases List.mem_or_eq_of_mem_set hv with hv | rfl
  · exact h v hv
  · rfl
theorem range_of {w : World} {b : Nat} {L : List Value} {t : TypeId} {f : Nat × Nat} (h : w.heap[b]? = some (.cells L.toArray t f)) : w.rangeAt b 0 L := fun j v hv => by
  rw [Nat.zero_add, cell_at h]
  simpa using hv
theorem there_of {w : World} {b n : Nat} {cs : Array Value} {t : TypeId} (h : w.heap[b]? = some (.cells cs t (0, 0))) (hn : n ≤ cs.size) : w.there b 0 n := fun j hj => by
  rw [Nat.zero_add, cell_at h, free_at h, Array.getElem?_eq_getElem (by omega)]
  exact ⟨rfl, rfl⟩
theorem setCells_at (b : Nat) : ∀ (vs : List Value) (o : Nat) (w : World) (cs : Array Value) (t : TypeId), w.heap[b]? = some (.cells cs t (0, 0)) → ∃ ds, (w.setCells b o vs).heap[b]? = some (.cells ds t (0, 0)) ∧ ds.size = cs.size ∧ Fr (fun k => k = b) (fun k => k = b) w (w.setCells b o vs)
  | [], o, w, cs, t, h => ⟨cs, h, rfl, Fr.refl _ _⟩
  | v :: vs, o, w, cs, t, h => by
    obtain ⟨ds, h1, h2, h3⟩ := setCells_at b vs (o + 1) (w.setCell ⟨b, o, none⟩ v) _ t (setCell_at h v)
    exact ⟨ds, h1, by rw [h2]; simp, (Fr.setCell (F := fun k => k = b) (F' := fun k => k = b) (Fr.refl _ w) (Or.inl rfl) v).trans h3⟩
theorem fr_cells {w W : World} {b : Nat} {cs : Array Value} {t : TypeId} (h : Fr noF noF w W) (hb : w.heap.size ≤ b) (hg : W.heap[b]? = some (.cells cs t (0, 0))) (vs : List Value) (o : Nat) : Fr noF noF w (W.setCells b o vs) := by
  obtain ⟨_, _, _, h3⟩ := setCells_at b vs o W cs t hg
  exact ((h.conv (F'' := fun k => k = b) fun k hk e => by omega).trans h3).conv fun k hk e => e.elim
theorem load_cells {W : World} {b : Nat} {ds : Array Value} {L : List Value} {t : TypeId} (hg : W.heap[b]? = some (.cells ds t (0, 0))) (hd : ds.size = 16) (hc : L.length = 16) :
    (loadVar TU ⟨b, 0, none⟩).run Tryz.prog (W.setCells b 0 L) = .ok (.agg L.toArray) (W.setCells b 0 L) :=
  run_loadVar_mid (P := Tryz.prog) (W.setCells b 0 L) b 0 TU L _ (World.rangeAt_setCells_same W b 0 L (there_of hg (by omega))) Tryz.underlying65 rfl (by rw [info_TU, hc])

/-- The array stands: what is loaded and stored back. -/
structure UA (w W : World) (L : List Value) : Prop where
  blk : W.heap[w.heap.size]? = some (.cells L.toArray TU (0, 0))
  len : L.length = 16
  one : ∀ v ∈ L, v.oneCell' = true
  fr : Fr noF noF w W
theorem UA.range {w W : World} {L : List Value} (h : UA w W L) : W.rangeAt w.heap.size 0 L := range_of h.blk
theorem UA.there {w W : World} {L : List Value} (h : UA w W L) : W.there w.heap.size 0 16 := there_of h.blk (by simp [h.len])
theorem UA.thereL {w W : World} {L : List Value} (h : UA w W L) : W.there w.heap.size 0 L.toArray.size := there_of h.blk (Nat.le_refl _)
theorem UA.info {w W : World} {L : List Value} (h : UA w W L) : (Tryz.prog.info? TU).map (·.size) = some L.length := by rw [info_TU, h.len]
theorem UA.infoA {w W : World} {L : List Value} (h : UA w W L) : (Tryz.prog.info? TU).map (·.size) = some L.toArray.size := by rw [info_TU]; simp [h.len]
theorem UA.all {w W : World} {L : List Value} (h : UA w W L) : L.toArray.all (·.oneCell') = true := all_oneCell_toArray h.one
theorem UA.alloc {w W : World} {L : List Value} (h : UA w W L) (o : Obj) : UA w (W.alloc o) L := ⟨alloc_at h.blk, h.len, h.one, h.fr.alloc o⟩
theorem UA.drewN {w W : World} {L : List Value} (h : UA w W L) (q : Nat) : UA w (W.drewN q) L := ⟨h.blk, h.len, h.one, h.fr.drewN q⟩
theorem UA.drew {w W : World} {L : List Value} (h : UA w W L) : UA w W.drew L := ⟨h.blk, h.len, h.one, h.fr.drew⟩
theorem UA.set {w W : World} {L : List Value} (h : UA w W L) (k : Nat) (n : Int) : UA w (W.setCell ⟨w.heap.size, k, none⟩ (.int .u8 n)) (L.set k (.int .u8 n)) :=
  ⟨by rw [setCell_at h.blk]; simp, by rw [List.length_set]; exact h.len, one_set h.one k n, h.fr.setCell (Or.inr (Nat.le_refl _)) _⟩
theorem UA.load {w W : World} {L : List Value} (h : UA w W L) : (loadVar TU ⟨w.heap.size, 0, none⟩).run Tryz.prog (W.setCells w.heap.size 0 L) = .ok (.agg L.toArray) (W.setCells w.heap.size 0 L) := load_cells h.blk (by simp [h.len]) h.len
theorem UA.done {w W : World} {L : List Value} (h : UA w W L) : Fr noF noF w (W.setCells w.heap.size 0 L) := fr_cells h.fr (Nat.le_refl _) h.blk _ _
theorem UA.range3 {w W : World} {L : List Value} (h : UA w W L) : (W.setCells w.heap.size 0 L).rangeAt w.heap.size 0 L := World.rangeAt_setCells_same W _ 0 L (there_of h.blk (by simp))
theorem UA.there3 {w W : World} {L : List Value} (h : UA w W L) : (W.setCells w.heap.size 0 L).there w.heap.size 0 16 := by
  obtain ⟨ds, h1, h2, _⟩ := setCells_at w.heap.size L 0 W _ _ h.blk
  exact there_of h1 (by rw [h2]; simp [h.len])
theorem UA.zero (w : World) : UA w (w.alloc (.cells (uL []).toArray TU (0, 0))) (uL []) := ⟨alloc_new w _, rfl, uL_one [], (Fr.refl noF w).alloc _⟩
abbrev zL : List Value := [Value.int .u8 0, Value.int .u8 0, Value.int .u8 0, Value.int .u8 0, Value.int .u8 0, Value.int .u8 0, Value.int .u8 0, Value.int .u8 0, Value.int .u8 0, Value.int .u8 0, Value.int .u8 0, Value.int .u8 0, Value.int .u8 0, Value.int .u8 0, Value.int .u8 0, Value.int .u8 0]
theorem UA.zero' (w : World) : UA w (w.alloc (.cells zL.toArray TU (0, 0))) zL := UA.zero w
/-- An error made beside it. -/
theorem New_beside (w W : World) (L : List Value) (h : UA w W L) (s : ByteArray) : Calls Tryz.prog 65 #[.string s] W fun e w' => ∃ p, e = .returned (.iface 178 p) ∧ UA w w' L :=
  (E_New s W).mono fun e w' ⟨he, hw⟩ => ⟨_, he, by rw [← hw]; exact h.alloc _⟩

/-- The state of the reading after k bytes. -/
def PS (w : World) (s : ByteArray) (k : Nat) (U : List UInt8) (wr : World) : Prop :=
  (JS.take k).foldl (acc s.data.toList) (some []) = some U ∧ UA w wr (uL U) ∧ wr.heap[w.heap.size + 1]? = some (.cells jcells 3 (0, 0))
theorem PS.len {w wr : World} {s : ByteArray} {k : Nat} {U : List UInt8} (h : PS w s k U wr) (hk : k ≤ 16) : U.length = k := by
  have := fold_len h.1
  simp [JS] at this
  omega
theorem PS.next {w wr : World} {s : ByteArray} {k j : Nat} {U : List UInt8} {x : Int} (h : PS w s k U wr) (hk : k < 16) (hj : JS[k]? = some j) (hs : j + 1 < s.size) (hx : two (((s[j]'(by omega)).toNat : Nat) : Int) (((s[j + 1]'hs).toNat : Nat) : Int) = some x) (q : Nat) :
    PS w s (k + 1) (U ++ [UInt8.ofNat x.toNat]) ((wr.drewN q).setCell ⟨w.heap.size, k, none⟩ (.int .u8 x)) := by
  have hl := h.len (by omega)
  obtain ⟨h1, h2, h3⟩ := h
  refine ⟨?_, ?_, setCell_ne (w := wr.drewN q) h3 (by omega) _⟩
  · rw [fold_step h1 hj]
    show (pairAt s.data.toList j).map _ = _
    rw [pair_two s j hs, hx]
    rfl
  · have e1 : uL (U ++ [UInt8.ofNat x.toNat]) = (uL U).set k (.int .u8 x) := by
      have e : (Value.int .u8 x) = .int .u8 (UInt8.ofNat x.toNat).toNat := by rw [two_byte hx]
      unfold uL
      rw [List.length_append, bcells_append, show 16 - U.length = (16 - (U.length + 1)) + 1 by omega, List.replicate_succ, List.set_append, if_neg (by rw [bcells_length]; omega), bcells_length, show k - U.length = 0 by omega, List.set_cons_zero, List.append_assoc, e]
      rfl
    rw [e1]
    exact (h2.drewN q).set k x
theorem PS.fail {w wr : World} {s : ByteArray} {k j : Nat} {U : List UInt8} (h : PS w s k U wr) (hj : JS[k]? = some j) (hs : j + 1 < s.size) (hx : two (((s[j]'(by omega)).toNat : Nat) : Int) (((s[j + 1]'hs).toNat : Nat) : Int) = none) : JS.foldl (acc s.data.toList) (some []) = none := by
  apply fold_stop (k := k + 1)
  rw [fold_step h.1 hj]
  show (pairAt s.data.toList j).map _ = _
  rw [pair_two s j hs, hx]
  rfl
theorem PS.drew1 {w wr : World} {s : ByteArray} {k : Nat} {U : List UInt8} (h : PS w s k U wr) : PS w s k U wr.drew := ⟨h.1, h.2.1.drew, h.2.2⟩
theorem JS_at {k : Nat} (hk : k < 16) : ∃ j, JS[k]? = some j ∧ j + 1 < 36 ∧ jcells[k]? = some (.int .i64 j) := by
  have : k = 0 ∨ k = 1 ∨ k = 2 ∨ k = 3 ∨ k = 4 ∨ k = 5 ∨ k = 6 ∨ k = 7 ∨ k = 8 ∨ k = 9 ∨ k = 10 ∨ k = 11 ∨ k = 12 ∨ k = 13 ∨ k = 14 ∨ k = 15 := by omega
  rcases this with rfl | rfl | rfl | rfl | rfl | rfl | rfl | rfl | rfl | rfl | rfl | rfl | rfl | rfl | rfl | rfl <;> exact ⟨_, rfl, by decide, rfl⟩
theorem PS.cell {w wr : World} {s : ByteArray} {k : Nat} {U : List UInt8} (h : PS w s k U wr) (hk : k < 16) : wr.cell? ⟨w.heap.size, k, none⟩ = some (.int .u8 0) ∧ wr.frozen? ⟨w.heap.size, k, none⟩ = false := by
  rw [cell_at h.2.1.blk, free_at h.2.1.blk]
  exact ⟨by simpa using uL_at U k (h.len (by omega)) hk, rfl⟩

theorem T_ParseTuuid (s : ByteArray) (w : World) : Calls Tryz.prog 44 #[.string s] w (ParseR s w) := by
  have HB := Lib.hid T_hexToByte
  by_cases h36 : s.size = 36
  · by_cases hd : dashed s.data.toList
    · have d8 : (((s[8]'(by omega)).toNat : Nat) : Int) = 45 := by rw [bat_eq]; exact hd.1
      have d13 : (((s[13]'(by omega)).toNat : Nat) : Int) = 45 := by rw [bat_eq]; exact hd.2.1
      have d18 : (((s[18]'(by omega)).toNat : Nat) : Int) = 45 := by rw [bat_eq]; exact hd.2.2.1
      have d23 : (((s[23]'(by omega)).toNat : Nat) : Int) = 45 := by rw [bat_eq]; exact hd.2.2.2
      have hu : uu s.data.toList = JS.foldl (acc s.data.toList) (some []) := by unfold uu; rw [if_pos ⟨by simpa using h36, hd⟩]
      have h0 : PS w s 0 [] ((w.alloc (.cells (uL []).toArray TU (0, 0))).alloc (.cells jcells 3 (0, 0))) :=
        ⟨rfl, (UA.zero w).alloc _, (new2 w _ _).2⟩
      have HU := Lib.hid hu
      have H0 := Lib.hid h0
      clear hu hd h0
      go_enter Tryz.func44, Tryz.ntmps44
      go_wp2_with fail
      go_loopw [34] (fun n wr => ∃ (k : Nat) (U : List UInt8), n = .int .i64 k ∧ k ≤ 16 ∧ PS w s k U wr) (fun n _ => 16 - (intOf n).toNat)
      case atStart => exact ⟨0, [], rfl, by omega, H0.out⟩
      case round =>
        obtain ⟨k, U, rfl, hk, hP⟩ := hrel
        rcases Nat.lt_or_ge k 16 with hlt | hge
        · obtain ⟨j, hj, hj36, hjc⟩ := JS_at hlt
          have hs : j + 1 < s.size := by omega
          have cj : wr.cell? ⟨w.heap.size + 1, k, none⟩ = some (.int .i64 j) := (cell_at hP.2.2 k).trans hjc
          obtain ⟨c0, f0⟩ := hP.cell hlt
          have hk0 : (0 : Int) ≤ (k : Int) := by omega
          have hk1 : (k : Int) < 16 := by omega
          have hj0 : (0 : Int) ≤ (j : Int) := by omega
          have hj1 : (j : Int) + 1 < (s.size : Int) := by omega
          have hj2 : (j : Int) < (s.size : Int) := by omega
          have hj3 : (j : Int) + 1 < 36 := by omega
          have hj5 : (0 : Int) ≤ (j : Int) + 1 := by omega
          have hj6 : IntKind.i64.wrap ((j : Int) + 1) = (j : Int) + 1 := by rw [IntKind.wrap_i64]; omega
          have HP := Lib.hid hP
          have HJ := Lib.hid hj
          clear hP hj hjc
          cases hx : two (((s[j]'(Nat.lt_of_succ_lt hs)).toNat : Nat) : Int) (((s[j + 1]'hs).toNat : Nat) : Int) with
          | none =>
            have HN := Lib.hid (HP.out.fail HJ.out hs hx)
            have HX := Lib.hid hx
            clear hx d8 d13 d18 d23 h36
            go_wp2_with fail
            clear hj36 hk hlt
            go_region_held3 (fun _ => True) (exact True.intro)
              (first | (go_at_call 66; refine (HB.out _ _ _).mono ?_; rintro e w' ⟨rfl, rfl⟩; rw [HX.out]; simp only [Option.getD, Option.isSome]))
            all_goals
              have u1 := Tryz.underlying65
              have hua := (HP.out.2.1.set k 0).drew
              have r1 := hua.drew.range
              have t1 := hua.drew.there
              have i1 := hua.info
              have l1 := hua.len
              have o1 := hua.one
              have HW := Lib.hid hua.drew
              clear hua c0 f0 cj
              go_wp2_with fail
              go_region_held3 (fun w' => w'.rangeAt w.heap.size 0 ((uL U).set k (.int .u8 0)) ∧ w'.there w.heap.size 0 16) (first | exact ⟨r1, t1⟩ | exact ⟨r2, t2⟩ | exact ⟨r3, t3⟩)
                (first | (go_at_call 65; refine (New_beside w _ ((uL U).set k (.int .u8 0)) HW.out _).mono ?_; rintro e w' ⟨p, rfl, hUA⟩; have r2 := hUA.range; have t2 := hUA.there; have r3 := hUA.range3; have t3 := hUA.there3; have HA := Lib.hid hUA; clear hUA))
              all_goals go_wp2
              all_goals exact bodyPost_ret (res_cell_tmp rfl _ _ w.heap.size ((uL U).set k (.int .u8 0)).toArray (.iface 178 p) rfl rfl HA.out.load) rfl (parse_none (HU.out.trans HN.out) HA.out.done (by simp [l1]) HA.out.all)
          | some x =>
            have HN := Lib.hid (HP.out.next hlt HJ.out hs hx)
            have HX := Lib.hid hx
            clear hx d8 d13 d18 d23 h36
            go_wp2_with fail
            clear hj36 hk hlt
            go_region_held3 (fun _ => True) (exact True.intro)
              (first | (go_at_call 66; refine (HB.out _ _ _).mono ?_; rintro e w' ⟨rfl, rfl⟩; rw [HX.out]; simp only [Option.getD, Option.isSome]))
            all_goals go_wp2
            all_goals
              refine ⟨⟨k + 1, _, rfl, by omega, (HN.out 0).drew1⟩, ?_⟩
              have e1 : intOf (Value.int IntKind.i64 (↑k + 1)) = k + 1 := rfl
              have e2 : intOf (Value.int IntKind.i64 (k : Int)) = k := rfl
              rw [e1, e2]; omega
        · obtain rfl : k = 16 := by omega
          have hf := hP.1
          rw [show JS.take 16 = JS from rfl] at hf
          have u1 := Tryz.underlying65
          have hua := hP.2.1
          have e16 : uL U = Lib.byteCells U := by unfold uL; rw [hP.len (by omega)]; simp
          have HW := Lib.hid hua
          have HF := Lib.hid (HU.out.trans hf)
          have HE := Lib.hid e16
          clear hP hf hua e16 h36 d8 d13 d18 d23
          go_wp2_with (first | (refine wpList_load_mid rfl TU _ rfl w.heap.size 0 rfl (uL U) _ HW.out.range u1 rfl HW.out.info ?_) | (refine wpList_store_mid rfl TU _ _ rfl w.heap.size 0 (uL U).toArray rfl rfl HW.out.thereL HW.out.infoA HW.out.all ?_))
          exact bodyPost_ret (res_cell_tmp rfl _ _ w.heap.size (uL U).toArray _ rfl rfl HW.out.load) rfl (parse_some HF.out HW.out.done (by rw [HE.out]))
    · have hu : uu s.data.toList = none := by unfold uu; rw [if_neg (fun h => hd h.2)]
      have HU := Lib.hid hu
      have b8 := bat_eq s 8 (by omega)
      have b13 := bat_eq s 13 (by omega)
      have b18 := bat_eq s 18 (by omega)
      have b23 := bat_eq s 23 (by omega)
      have hways : bat s.data.toList 8 ≠ 45 ∨ (bat s.data.toList 8 = 45 ∧ bat s.data.toList 13 ≠ 45) ∨ (bat s.data.toList 8 = 45 ∧ bat s.data.toList 13 = 45 ∧ bat s.data.toList 18 ≠ 45) ∨ (bat s.data.toList 8 = 45 ∧ bat s.data.toList 13 = 45 ∧ bat s.data.toList 18 = 45 ∧ bat s.data.toList 23 ≠ 45) := by
        unfold dashed at hd
        omega
      rw [← b8, ← b13, ← b18, ← b23] at hways
      clear b8 b13 b18 b23 hu hd
      rcases hways with h8 | ⟨h8, h13⟩ | ⟨h8, h13, h18⟩ | ⟨h8, h13, h18, h23⟩
      · have d8 : ((((s[8]'(by omega)).toNat : Nat) : Int) != 45) = true := by simpa using h8
        clear h8
        go_enter Tryz.func44, Tryz.ntmps44
        go_wp2_with fail
        obtain ⟨W, hW⟩ : ∃ W, W = w.alloc (.cells #[Value.int .u8 0, Value.int .u8 0, Value.int .u8 0, Value.int .u8 0, Value.int .u8 0, Value.int .u8 0, Value.int .u8 0, Value.int .u8 0, Value.int .u8 0, Value.int .u8 0, Value.int .u8 0, Value.int .u8 0, Value.int .u8 0, Value.int .u8 0, Value.int .u8 0, Value.int .u8 0] TU (0, 0)) := ⟨_, rfl⟩
        have hex : ∃ L, UA w W L := ⟨zL, by rw [hW]; exact UA.zero' w⟩
        rw [← hW]
        clear hW
        obtain ⟨L, hua⟩ := hex
        have u1 := Tryz.underlying65
        have r1 := hua.drew.range
        have t1 := hua.drew.there
        have i1 := hua.info
        have l1 := hua.len
        have o1 := hua.one
        have HW := Lib.hid hua.drew
        clear hua
        go_region_held3 (fun w' => w'.rangeAt w.heap.size 0 L ∧ w'.there w.heap.size 0 16) (first | exact ⟨r1, t1⟩ | exact ⟨r2, t2⟩ | exact ⟨r3, t3⟩)
          (first | (go_at_call 65; refine (New_beside w _ L HW.out _).mono ?_; rintro e w' ⟨p, rfl, hUA⟩; have r2 := hUA.range; have t2 := hUA.there; have r3 := hUA.range3; have t3 := hUA.there3; have HA := Lib.hid hUA; clear hUA))
        all_goals go_wp2
        all_goals exact bodyPost_ret (res_cell_tmp rfl _ _ w.heap.size L.toArray (.iface 178 p) rfl rfl HA.out.load) rfl (parse_none HU.out HA.out.done (by simp [l1]) HA.out.all)
      · have d8 : ((((s[8]'(by omega)).toNat : Nat) : Int) != 45) = false := by simpa using h8
        have d13 : ((((s[13]'(by omega)).toNat : Nat) : Int) != 45) = true := by simpa using h13
        clear h8 h13
        go_enter Tryz.func44, Tryz.ntmps44
        go_wp2_with fail
        obtain ⟨W, hW⟩ : ∃ W, W = w.alloc (.cells #[Value.int .u8 0, Value.int .u8 0, Value.int .u8 0, Value.int .u8 0, Value.int .u8 0, Value.int .u8 0, Value.int .u8 0, Value.int .u8 0, Value.int .u8 0, Value.int .u8 0, Value.int .u8 0, Value.int .u8 0, Value.int .u8 0, Value.int .u8 0, Value.int .u8 0, Value.int .u8 0] TU (0, 0)) := ⟨_, rfl⟩
        have hex : ∃ L, UA w W L := ⟨zL, by rw [hW]; exact UA.zero' w⟩
        rw [← hW]
        clear hW
        obtain ⟨L, hua⟩ := hex
        have u1 := Tryz.underlying65
        have r1 := hua.drew.range
        have t1 := hua.drew.there
        have i1 := hua.info
        have l1 := hua.len
        have o1 := hua.one
        have HW := Lib.hid hua.drew
        clear hua
        go_region_held3 (fun w' => w'.rangeAt w.heap.size 0 L ∧ w'.there w.heap.size 0 16) (first | exact ⟨r1, t1⟩ | exact ⟨r2, t2⟩ | exact ⟨r3, t3⟩)
          (first | (go_at_call 65; refine (New_beside w _ L HW.out _).mono ?_; rintro e w' ⟨p, rfl, hUA⟩; have r2 := hUA.range; have t2 := hUA.there; have r3 := hUA.range3; have t3 := hUA.there3; have HA := Lib.hid hUA; clear hUA))
        all_goals go_wp2
        all_goals exact bodyPost_ret (res_cell_tmp rfl _ _ w.heap.size L.toArray (.iface 178 p) rfl rfl HA.out.load) rfl (parse_none HU.out HA.out.done (by simp [l1]) HA.out.all)
      · have d8 : ((((s[8]'(by omega)).toNat : Nat) : Int) != 45) = false := by simpa using h8
        have d13 : ((((s[13]'(by omega)).toNat : Nat) : Int) != 45) = false := by simpa using h13
        have d18 : ((((s[18]'(by omega)).toNat : Nat) : Int) != 45) = true := by simpa using h18
        clear h8 h13 h18
        go_enter Tryz.func44, Tryz.ntmps44
        go_wp2_with fail
        obtain ⟨W, hW⟩ : ∃ W, W = w.alloc (.cells #[Value.int .u8 0, Value.int .u8 0, Value.int .u8 0, Value.int .u8 0, Value.int .u8 0, Value.int .u8 0, Value.int .u8 0, Value.int .u8 0, Value.int .u8 0, Value.int .u8 0, Value.int .u8 0, Value.int .u8 0, Value.int .u8 0, Value.int .u8 0, Value.int .u8 0, Value.int .u8 0] TU (0, 0)) := ⟨_, rfl⟩
        have hex : ∃ L, UA w W L := ⟨zL, by rw [hW]; exact UA.zero' w⟩
        rw [← hW]
        clear hW
        obtain ⟨L, hua⟩ := hex
        have u1 := Tryz.underlying65
        have r1 := hua.drew.range
        have t1 := hua.drew.there
        have i1 := hua.info
        have l1 := hua.len
        have o1 := hua.one
        have HW := Lib.hid hua.drew
        clear hua
        go_region_held3 (fun w' => w'.rangeAt w.heap.size 0 L ∧ w'.there w.heap.size 0 16) (first | exact ⟨r1, t1⟩ | exact ⟨r2, t2⟩ | exact ⟨r3, t3⟩)
          (first | (go_at_call 65; refine (New_beside w _ L HW.out _).mono ?_; rintro e w' ⟨p, rfl, hUA⟩; have r2 := hUA.range; have t2 := hUA.there; have r3 := hUA.range3; have t3 := hUA.there3; have HA := Lib.hid hUA; clear hUA))
        all_goals go_wp2
        all_goals exact bodyPost_ret (res_cell_tmp rfl _ _ w.heap.size L.toArray (.iface 178 p) rfl rfl HA.out.load) rfl (parse_none HU.out HA.out.done (by simp [l1]) HA.out.all)
      · have d8 : ((((s[8]'(by omega)).toNat : Nat) : Int) != 45) = false := by simpa using h8
        have d13 : ((((s[13]'(by omega)).toNat : Nat) : Int) != 45) = false := by simpa using h13
        have d18 : ((((s[18]'(by omega)).toNat : Nat) : Int) != 45) = false := by simpa using h18
        have d23 : ((((s[23]'(by omega)).toNat : Nat) : Int) != 45) = true := by simpa using h23
        clear h8 h13 h18 h23
        go_enter Tryz.func44, Tryz.ntmps44
        go_wp2_with fail
        obtain ⟨W, hW⟩ : ∃ W, W = w.alloc (.cells #[Value.int .u8 0, Value.int .u8 0, Value.int .u8 0, Value.int .u8 0, Value.int .u8 0, Value.int .u8 0, Value.int .u8 0, Value.int .u8 0, Value.int .u8 0, Value.int .u8 0, Value.int .u8 0, Value.int .u8 0, Value.int .u8 0, Value.int .u8 0, Value.int .u8 0, Value.int .u8 0] TU (0, 0)) := ⟨_, rfl⟩
        have hex : ∃ L, UA w W L := ⟨zL, by rw [hW]; exact UA.zero' w⟩
        rw [← hW]
        clear hW
        obtain ⟨L, hua⟩ := hex
        have u1 := Tryz.underlying65
        have r1 := hua.drew.range
        have t1 := hua.drew.there
        have i1 := hua.info
        have l1 := hua.len
        have o1 := hua.one
        have HW := Lib.hid hua.drew
        clear hua
        go_region_held3 (fun w' => w'.rangeAt w.heap.size 0 L ∧ w'.there w.heap.size 0 16) (first | exact ⟨r1, t1⟩ | exact ⟨r2, t2⟩ | exact ⟨r3, t3⟩)
          (first | (go_at_call 65; refine (New_beside w _ L HW.out _).mono ?_; rintro e w' ⟨p, rfl, hUA⟩; have r2 := hUA.range; have t2 := hUA.there; have r3 := hUA.range3; have t3 := hUA.there3; have HA := Lib.hid hUA; clear hUA))
        all_goals go_wp2
        all_goals exact bodyPost_ret (res_cell_tmp rfl _ _ w.heap.size L.toArray (.iface 178 p) rfl rfl HA.out.load) rfl (parse_none HU.out HA.out.done (by simp [l1]) HA.out.all)
  · have hl : ¬ s.data.toList.length = 36 := by simpa using h36
    have hu : uu s.data.toList = none := by unfold uu; rw [if_neg (fun h => hl h.1)]
    have hn : ¬ (s.size : Int) = 36 := by omega
    have HU := Lib.hid hu
    clear hu hl
    go_enter Tryz.func44, Tryz.ntmps44
    go_wp2_with fail
    obtain ⟨W, hW⟩ : ∃ W, W = w.alloc (.cells #[Value.int .u8 0, Value.int .u8 0, Value.int .u8 0, Value.int .u8 0, Value.int .u8 0, Value.int .u8 0, Value.int .u8 0, Value.int .u8 0, Value.int .u8 0, Value.int .u8 0, Value.int .u8 0, Value.int .u8 0, Value.int .u8 0, Value.int .u8 0, Value.int .u8 0, Value.int .u8 0] TU (0, 0)) := ⟨_, rfl⟩
    have hex : ∃ L, UA w W L := ⟨zL, by rw [hW]; exact UA.zero' w⟩
    rw [← hW]
    clear hW
    obtain ⟨L, hua⟩ := hex
    have u1 := Tryz.underlying65
    have r1 := hua.drew.range
    have t1 := hua.drew.there
    have i1 := hua.info
    have l1 := hua.len
    have o1 := hua.one
    have HW := Lib.hid hua.drew
    clear hua
    go_region_held3 (fun w' => w'.rangeAt w.heap.size 0 L ∧ w'.there w.heap.size 0 16) (first | exact ⟨r1, t1⟩ | exact ⟨r2, t2⟩ | exact ⟨r3, t3⟩)
      (first | (go_at_call 65; refine (New_beside w _ L HW.out _).mono ?_; rintro e w' ⟨p, rfl, hUA⟩; have r2 := hUA.range; have t2 := hUA.there; have r3 := hUA.range3; have t3 := hUA.there3; have HA := Lib.hid hUA; clear hUA))
    all_goals go_wp2
    all_goals exact bodyPost_ret (res_cell_tmp rfl _ _ w.heap.size L.toArray (.iface 178 p) rfl rfl HA.out.load) rfl (parse_none HU.out HA.out.done (by simp [l1]) HA.out.all)
end Go.Proofs.YtdedkoahfailcaaGreatDoor
