import Derived.Test.YbulkfreoCWalk
namespace Go.Proofs.Ybulkfreo.CWalk
open Go.RowKit Go.Proofs.Ybulkfreo.CBase
set_option linter.unusedVariables false

/-- copy, elements of k cells each: all is read before anything is written. -/
theorem run_copy_wide {P : Program} (w : World) (dT sT ty elem : TypeId) (k b o n dCap : Nat) (a : Addr) (sCap : Nat) (cs : List Value)
    (hu : P.underlying dT = some (.slice elem)) (hs : (P.info? elem).map (·.size) = some k) (hn : cs.length = n * k)
    (hsrc : ∀ j v, cs[j]? = some v → w.cell? (a.add j) = some v) (hc : ∀ j, j < cs.length → (w.cell? ⟨b, o + j, none⟩).isSome = true) (hf : ∀ j, j < cs.length → w.frozen? ⟨b, o + j, none⟩ = false) (h1 : ∀ v ∈ cs, v.oneCell' = true) :
    (Builtin.copy_ #[dT, sT] ty #[.slice (some ⟨b, o, none⟩) n dCap, .slice (some a) n sCap]).run P w = .ok (goInt n) (w.setCells b o cs) := by
  have hl := run_loadCells_list (P := P) w a cs hsrc
  have hst := run_storeCells_cells (P := P) b o cs 0 w (by simpa using hc) (by simpa using hf) h1
  cases hq : P.info? elem with
  | none => simp [hq] at hs
  | some i =>
    have hi : i.size = k := by simpa [hq] using hs
    simp [Builtin.copy_, run_underlying hu, Builtin.lenOf, Builtin.firstCells, sizeOf, typeInfo, hq, hi, ← hn, hl, hst]

/-- The cells of n nodes. -/
def cells (D : Nodes) (n : Nat) : List Value := (List.range (n * 5)).map D.fld

theorem cells_get (D : Nodes) (n j : Nat) (v : Value) (h : (cells D n)[j]? = some v) : j < n * 5 ∧ v = D.fld j := by
  simp only [cells, List.getElem?_map, Option.map_eq_some_iff] at h
  obtain ⟨i, hi, rfl⟩ := h
  obtain ⟨hj, rfl⟩ := List.getElem?_eq_some_iff.1 hi
  simp at hj
  simp [hj]

theorem fld_one (D : Nodes) (j : Nat) : (D.fld j).oneCell' = true := by
  unfold Nodes.fld
  split
  · rfl
  split
  · rfl
  split
  · rfl
  split <;> rfl

theorem below_setCells {B : Nat} {a : World} {b : Nat} (hb : B ≤ b) : ∀ (vs : List Value) (o : Nat) (w : World), Below B a w → Below B a (w.setCells b o vs)
  | [], _, _, h => h
  | v :: r, o, w, h => by
    rw [World.setCells]
    exact below_setCells hb r (o + 1) _ (h.setCell (p := ⟨b, o, none⟩) hb v)
theorem size_setCells {b : Nat} : ∀ (vs : List Value) (o : Nat) (w : World), (w.setCells b o vs).heap.size = w.heap.size
  | [], _, _ => rfl
  | v :: r, o, w => by rw [World.setCells, size_setCells r]; simp [World.setCell]

theorem run_make79 (n : Nat) (hn : n ≤ 1048576) (w : World) :
    (Instr.makeSlice 69 (.int .i64 (n : Int)) (.int .i64 (n : Int))).run Yba.prog w = .ok (.slice (some ⟨w.heap.size, 0, none⟩) n n) (w.alloc (.cells (madeCells #[.string ByteArray.empty, .int .i64 0, .int .i64 0, .int .i64 0, .float .f64 0] (n * 5)) 79)) := by
  obtain ⟨i, hi, hz, hs, hb⟩ := info_parts info79
  have := run_make (P := Yba.prog) w 69 79 i _ Yba.underlying69 hi hz .i64 .i64 n n (by omega) (by omega) (by rw [hb]; omega) (by omega)
  simp only [Int.toNat_natCast, hs] at this
  exact this

/-- The copy that the law makes. -/
theorem copy_facts (w : World) (b off n cap : Nat) (D : Nodes) (hb : b < w.heap.size) (hl : Lie w b off n D) (W : World) (hW : W = w.alloc (.cells (madeCells #[.string ByteArray.empty, .int .i64 0, .int .i64 0, .int .i64 0, .float .f64 0] (n * 5)) 79)) :
    ∃ W2, (∀ ty, (Builtin.copy_ #[69, 69] ty #[.slice (some ⟨w.heap.size, 0, none⟩) n n, .slice (some ⟨b, off, none⟩) n cap]).run Yba.prog W = .ok (goInt n) W2) ∧ Below w.heap.size w W2 ∧ W2.heap.size = w.heap.size + 1 ∧ Lie W2 b off n D ∧ Lie W2 w.heap.size 0 n D := by
  have hblk : W.heap[w.heap.size]? = some (.cells (madeCells #[.string ByteArray.empty, .int .i64 0, .int .i64 0, .int .i64 0, .float .f64 0] (n * 5)) 79 (0, 0)) := by rw [hW]; exact heap_alloc_new w _
  have hB : Below w.heap.size w W := by rw [hW]; exact (Below.refl _ _).alloc (Nat.le_refl _) _
  have hlen : (cells D n).length = n * 5 := by simp [cells]
  have hsome : ∀ j, j < (cells D n).length → (W.cell? ⟨w.heap.size, 0 + j, none⟩).isSome = true := fun j hj => by
    rw [Nat.zero_add, cell_of_row W _ _ _ _ _ hblk, Array.getElem?_eq_getElem (by rw [size_madeCells]; omega)]; rfl
  have hLW := hl.below hB hb
  refine ⟨W.setCells w.heap.size 0 (cells D n), fun ty => ?_, below_setCells (Nat.le_refl _) _ _ _ hB, by rw [size_setCells, hW]; simp, ?_, ?_⟩
  · exact run_copy_wide W 69 69 ty 79 5 w.heap.size 0 n n ⟨b, off, none⟩ cap (cells D n) Yba.underlying69 size79 hlen
      (fun j v hv => by
        obtain ⟨hj, rfl⟩ := cells_get D n j v hv
        rw [Addr.add_mid]; exact hLW j hj)
      hsome (fun j _ => frozen_of_row W _ _ _ _ hblk) (fun v hv => by simp only [cells, List.mem_map] at hv; obtain ⟨i, _, rfl⟩ := hv; exact fld_one D i)
  · exact hl.below (below_setCells (Nat.le_refl _) _ _ _ hB) hb
  · intro j hj
    rw [World.cell?_setCells_in w.heap.size (cells D n) 0 W hsome j (by omega)]
    simp [cells]

theorem use_is (needed : Int) (c : Int) (hd : needed.natAbs < 2 ^ 64) (hc : c.natAbs < 2 ^ 64) : ∃ r, UseIs needed c r := by
  by_cases h0 : c = 0
  · exact ⟨0, .inl ⟨h0, rfl⟩⟩
  · obtain ⟨r, hr⟩ := quo_some needed c hd hc h0
    exact ⟨r, .inr ⟨h0, hr⟩⟩

theorem capTo_lt (D : Nodes) : ∀ n, (capTo D n).natAbs < 2 ^ 64
  | 0 => by simp [capTo]
  | k + 1 => by
    have ih := capTo_lt D k
    simp only [capTo]
    split
    · unfold wrap64; omega
    · exact ih

set_option maxRecDepth 100000 in
set_option maxHeartbeats 800000 in
theorem walk_some (needed : Int) (b off n cap : Nat) (D : Nodes) (w : World) (hn : n ≤ 1048576) (hd : needed.natAbs < 2 ^ 64) (hb : b < w.heap.size) (hl : Lie w b off n D) :
    Calls Yba.prog 4 #[.int .i64 needed, .slice (some ⟨b, off, none⟩) n cap] w fun e w' => e = .returned (.bool true) ∧ Below w.heap.size w w' := by
  have hmk := run_make79 n hn
  have q1 := fun (w : World) (a : Option Addr) (n c : Nat) => run_neq_slice_nil_any (P := Yba.prog) w 69 79 a n c 0 0 Yba.underlying69
  have hbt := bits_run
  have h11 : decide ((1048576 : Int) < (n : Int)) = false := by simp; omega
  obtain ⟨W, hW⟩ : ∃ W, W = w.alloc (.cells (madeCells #[.string ByteArray.empty, .int .i64 0, .int .i64 0, .int .i64 0, .float .f64 0] (n * 5)) 79) := ⟨_, rfl⟩
  obtain ⟨W2, hcp, hB2, hz2, hL2, hL2'⟩ := copy_facts w b off n cap D hb hl W hW
  rw [hW] at hcp
  obtain ⟨r, hu⟩ := use_is needed (capTo D n) hd (capTo_lt D n)
  have HU : Hid (UseIs needed (capTo D n) r) := hu
  have HL : Hid (Lie W2 b off n D ∧ Lie W2 w.heap.size 0 n D ∧ Below w.heap.size w W2) := ⟨hL2, hL2', hB2⟩
  clear hW hl hu hL2 hL2' hB2 hd
  go_enter Yba.func4, Yba.ntmps4
  go_wp2_with fail
  refine (use_of needed (capTo D n) r _ _ HU.out (capacity_any b off n cap D _ hn (by omega) HL.out.1)).mono ?_
  rintro e w3 ⟨rfl, hB3⟩
  have hz3 := hB3.size
  have HL3 : Hid (Lie w3 b off n D ∧ Lie w3 w.heap.size 0 n D ∧ Below w.heap.size w w3) := ⟨HL.out.1.below hB3 (by omega), HL.out.2.1.below hB3 (by omega), HL.out.2.2.trans (hB3.mono (by omega))⟩
  clear hB3 HL
  go_wp2_with fail
  refine (ccap_any w.heap.size 0 n n D _ hn HL3.out.2.1).mono ?_
  rintro e w4 ⟨rfl, rfl⟩
  rcases HU.out with ⟨h0, rfl⟩ | ⟨h0, hq⟩
  · have hz : (capTo D n != 0) = false := by simp [h0]
    clear h0
    go_wp2_with fail
    refine (same_any b off w.heap.size n cap n D w4 hn (by omega) (by omega) HL3.out.1 HL3.out.2.1).mono ?_
    rintro e w5 ⟨rfl, hB5⟩
    go_wp2
    go_ret
    exact ⟨rfl, HL3.out.2.2.trans (hB5.mono (by omega))⟩
  · have hz : (capTo D n != 0) = true := by simp [h0]
    have hr := fun w => run_float_arith (P := Yba.prog) w .quo 24 .f64 _ _ r hq
    clear h0 hq
    go_wp2_with fail
    refine (same_any b off w.heap.size n cap n D w4 hn (by omega) (by omega) HL3.out.1 HL3.out.2.1).mono ?_
    rintro e w5 ⟨rfl, hB5⟩
    go_wp2
    go_ret
    exact ⟨rfl, HL3.out.2.2.trans (hB5.mono (by omega))⟩

/-! ### No nodes; too many nodes -/
theorem run_copy_zero (w : World) (ty : TypeId) (d a : Option Addr) (c : Nat) : (Builtin.copy_ #[69, 69] ty #[.slice d 0 0, .slice a 0 c]).run Yba.prog w = .ok (goInt 0) w := by
  obtain ⟨i, hq, _, hs, _⟩ := info_parts info79
  have hl : ∀ (x : Addr), (loadCells x 0).run Yba.prog w = .ok #[] w := fun x => by simpa using run_loadCells_list (P := Yba.prog) w x [] (by simp)
  cases d <;> cases a <;> simp [Builtin.copy_, run_underlying Yba.underlying69, Builtin.lenOf, Builtin.firstCells, sizeOf, typeInfo, hq, storeCells, hl]

set_option maxRecDepth 100000 in
set_option maxHeartbeats 400000 in
theorem walk_zero (needed : Int) (a : Addr) (cap : Nat) (w : World) :
    Calls Yba.prog 4 #[.int .i64 needed, .slice (some a) 0 cap] w fun e w' => e = .returned (.bool true) ∧ Below w.heap.size w w' := by
  have hmk := fun w => run_make79 0 (by omega) w
  simp only [Int.natCast_zero] at hmk
  have q1 := fun (w : World) (a : Option Addr) (n c : Nat) => run_neq_slice_nil_any (P := Yba.prog) w 69 79 a n c 0 0 Yba.underlying69
  have hbt := bits_run
  have hcp := run_copy_zero
  go_enter Yba.func4, Yba.ntmps4
  go_wp2_with fail
  refine (use_of needed 0 0 _ _ (.inl ⟨rfl, rfl⟩) (capacity_zero (some a) cap _)).mono ?_
  rintro e w3 ⟨rfl, hB3⟩
  have HB : Hid (Below w.heap.size w w3) := ((Below.refl _ _).alloc (Nat.le_refl _) _).trans (hB3.mono (by simp))
  clear hB3
  go_wp2_with fail
  refine (ccap_zero _ _ _).mono ?_
  rintro e w4 ⟨rfl, rfl⟩
  go_wp2_with fail
  refine (same_zero (some a) (some ⟨w.heap.size, 0, none⟩) _ _ _ rfl).mono ?_
  rintro e w5 ⟨rfl, hB5⟩
  have hz := HB.out.size
  go_wp2
  go_ret
  exact ⟨rfl, HB.out.trans (hB5.mono hz)⟩

set_option maxRecDepth 100000 in
set_option maxHeartbeats 400000 in
theorem walk_nil (needed : Int) (w : World) :
    Calls Yba.prog 4 #[.int .i64 needed, .slice none 0 0] w fun e w' => e = .returned (.bool true) ∧ Below w.heap.size w w' := by
  have q1 := fun (w : World) (a : Option Addr) (n c : Nat) => run_neq_slice_nil_any (P := Yba.prog) w 69 79 a n c 0 0 Yba.underlying69
  have hbt := bits_run
  go_enter Yba.func4, Yba.ntmps4
  go_wp2_with fail
  refine (use_of needed 0 0 _ _ (.inl ⟨rfl, rfl⟩) (capacity_zero none 0 _)).mono ?_
  rintro e w3 ⟨rfl, hB3⟩
  have HB : Hid (Below w.heap.size w w3) := hB3
  clear hB3
  go_wp2_with fail
  refine (ccap_zero _ _ _).mono ?_
  rintro e w4 ⟨rfl, rfl⟩
  go_wp2_with fail
  refine (same_zero _ _ _ _ _ rfl).mono ?_
  rintro e w5 ⟨rfl, hB5⟩
  have hz := HB.out.size
  go_wp2
  go_ret
  exact ⟨rfl, HB.out.trans (hB5.mono hz)⟩

set_option maxRecDepth 100000 in
theorem walk_big (needed : Int) (a : Option Addr) (n cap : Nat) (w : World) (h : 1048576 < n) :
    Calls Yba.prog 4 #[.int .i64 needed, .slice a n cap] w fun e w' => e = .returned (.bool true) ∧ Below w.heap.size w w' := by
  have h11 : decide ((1048576 : Int) < (n : Int)) = true := by simp; omega
  go_enter Yba.func4, Yba.ntmps4
  go_wp2
  go_ret
  exact ⟨rfl, Below.refl _ _⟩

/-- What the walk is told of a slice of nodes that came in. -/
def IsNodes (w : World) (a : Option Addr) (n cap : Nat) : Prop :=
  (a = none ∧ n = 0 ∧ cap = 0) ∨ ∃ x, a = some x ∧ (0 < n → ∃ b off D, x = ⟨b, off, none⟩ ∧ b < w.heap.size ∧ Lie w b off n D)

theorem walk (needed : Int) (a : Option Addr) (n cap : Nat) (w : World) (h : IsNodes w a n cap) (hd : needed.natAbs < 2 ^ 64) :
    Calls Yba.prog 4 #[.int .i64 needed, .slice a n cap] w fun e w' => e = .returned (.bool true) ∧ Below w.heap.size w w' := by
  by_cases hn : 1048576 < n
  · exact walk_big needed a n cap w hn
  rcases h with ⟨rfl, rfl, rfl⟩ | ⟨x, rfl, h⟩
  · exact walk_nil needed w
  by_cases h0 : n = 0
  · subst h0; exact walk_zero needed x cap w
  obtain ⟨b, off, D, rfl, hb, hl⟩ := h (by omega)
  exact walk_some needed b off n cap D w (by omega) hd hb hl
end Go.Proofs.Ybulkfreo.CWalk
