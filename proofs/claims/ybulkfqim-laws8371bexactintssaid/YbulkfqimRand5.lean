import Derived.Test.YbulkfqimRand4
namespace Go.Proofs.Ybulkfqim.Rand
open Go.RowKit
set_option linter.unusedVariables false

/-- Block g is a row of 32 bytes, none frozen. -/
def Key (w : World) (g : Nat) : Prop := ∃ cs : Array Value, w.heap[g]? = some (.cells cs 71 (0, 0)) ∧ cs.size = 32 ∧ ∀ i, i < 32 → ∃ x, cs[i]? = some (.int .u8 x)

theorem Key.cell {w : World} {g : Nat} (h : Key w g) {i : Nat} (hi : i < 32) : ∃ x, w.cell? ⟨g, i, none⟩ = some (.int .u8 x) := by
  obtain ⟨cs, h1, _, h3⟩ := h
  obtain ⟨x, hx⟩ := h3 i hi
  exact ⟨x, by rw [cell_of_row w _ _ _ _ _ h1]; exact hx⟩
theorem Key.free {w : World} {g : Nat} (h : Key w g) (i : Nat) : w.frozen? ⟨g, i, none⟩ = false := by
  obtain ⟨cs, h1, _, _⟩ := h
  exact frozen_of_row w _ _ _ _ h1
theorem Key.lt {w : World} {g : Nat} (h : Key w g) : g < w.heap.size := by
  obtain ⟨cs, h1, _, _⟩ := h
  exact (Array.getElem?_eq_some_iff.1 h1).1
theorem Key.set {w : World} {g : Nat} (h : Key w g) (i : Nat) (x : Int) : Key (w.setCell ⟨g, i, none⟩ (.int .u8 x)) g := by
  obtain ⟨cs, h1, h2, h3⟩ := h
  refine ⟨_, heap_setCell_same w g i cs 71 _ h1, by simpa using h2, fun j hj => ?_⟩
  rw [Array.getElem?_setIfInBounds]
  by_cases e : i = j
  · subst e
    exact ⟨x, by simp [h2, hj]⟩
  · rw [if_neg e]; exact h3 j hj
theorem Key.alloc {w : World} {g : Nat} (h : Key w g) (o : Obj) : Key (w.alloc o) g := by
  have hl := h.lt
  obtain ⟨cs, h1, h2, h3⟩ := h
  exact ⟨cs, by rw [heap_alloc_old w o hl]; exact h1, h2, h3⟩

theorem bset {g : Nat} {a w : World} (h : Below g a w) (i : Nat) (v : Value) : Below g a (w.setCell ⟨g, i, none⟩ v) := h.setCell (p := ⟨g, i, none⟩) (Nat.le_refl _) v

set_option maxRecDepth 100000 in
set_option maxHeartbeats 800000 in
theorem put_any (g : Nat) (v : Int) (w : World) (h : Key w g) :
    Calls Yba.prog 26 #[.agg #[], .slice (some ⟨g, 0, none⟩) 32 32, .int .u64 v] w fun e w' => e = .returned (.tuple #[]) ∧ Below g w w' ∧ Key w' g := by
  obtain ⟨x0, c0⟩ := h.cell (i := 0) (by omega)
  obtain ⟨x1, c1⟩ := h.cell (i := 1) (by omega)
  obtain ⟨x2, c2⟩ := h.cell (i := 2) (by omega)
  obtain ⟨x3, c3⟩ := h.cell (i := 3) (by omega)
  obtain ⟨x4, c4⟩ := h.cell (i := 4) (by omega)
  obtain ⟨x5, c5⟩ := h.cell (i := 5) (by omega)
  obtain ⟨x6, c6⟩ := h.cell (i := 6) (by omega)
  obtain ⟨x7, c7⟩ := h.cell (i := 7) (by omega)
  have f0 := h.free 0
  have f1 := h.free 1
  have f2 := h.free 2
  have f3 := h.free 3
  have f4 := h.free 4
  have f5 := h.free 5
  have f6 := h.free 6
  have f7 := h.free 7
  have hg := h.lt
  have HK : Hid (Key w g) := h
  clear h
  go_enter Yba.func26, Yba.ntmps26
  go_wp2
  go_end0
  refine ⟨rfl, ?_, ?_⟩
  · exact (bset (bset (bset (bset (bset (bset (bset (bset (Below.refl _ _) _ _) _ _) _ _) _ _) _ _) _ _) _ _) _ _).alloc (by simp [World.setCell]; omega) _
  · exact ((((((((HK.out.set _ _).set _ _).set _ _).set _ _).set _ _).set _ _).set _ _).set _ _).alloc _

def zero32 : Array Value := #[.int .u8 0, .int .u8 0, .int .u8 0, .int .u8 0, .int .u8 0, .int .u8 0, .int .u8 0, .int .u8 0, .int .u8 0, .int .u8 0, .int .u8 0, .int .u8 0, .int .u8 0, .int .u8 0, .int .u8 0, .int .u8 0, .int .u8 0, .int .u8 0, .int .u8 0, .int .u8 0, .int .u8 0, .int .u8 0, .int .u8 0, .int .u8 0, .int .u8 0, .int .u8 0, .int .u8 0, .int .u8 0, .int .u8 0, .int .u8 0, .int .u8 0, .int .u8 0]

theorem key_new (w : World) (W : World) (hW : W = w.alloc (.cells zero32 71)) : Key W w.heap.size ∧ Below w.heap.size w W ∧ w.heap.size < W.heap.size := by
  subst hW
  refine ⟨⟨zero32, heap_alloc_new w _, rfl, fun i hi => ⟨0, ?_⟩⟩, (Below.refl _ _).alloc (Nat.le_refl _) _, by simp⟩
  have e : zero32 = Array.replicate 32 (.int .u8 0) := rfl
  rw [e]; simp [hi]

theorem new_any (t : TypeId) (p : Option Addr) (w : World) :
    Calls Yba.prog 27 #[.iface t (.pointer p)] w fun e w' => e = .returned (.pointer (some ⟨w.heap.size, 0, none⟩)) ∧ Below w.heap.size w w' := by
  go_enter Yba.func27, Yba.ntmps27
  go_wp2
  go_ret
  exact ⟨rfl, (Below.refl _ _).alloc (Nat.le_refl _) _⟩

set_option maxRecDepth 100000 in
set_option maxHeartbeats 800000 in
theorem rand_any (v : Int) (w : World) :
    Calls Yba.prog 19 #[.int .u64 v] w fun e w' => ∃ p, e = .returned (.pointer (some p)) ∧ Below w.heap.size w w' := by
  obtain ⟨W, hW⟩ : ∃ W, W = w.alloc (.cells zero32 71) := ⟨_, rfl⟩
  obtain ⟨hK, hB, hs⟩ := key_new w W hW
  unfold zero32 at hW
  have HW : Hid (W = _) := hW
  have HK : Hid (Key W w.heap.size) := hK
  have HB : Hid (Below w.heap.size w W) := hB
  clear hW hK hB
  go_enter Yba.func19, Yba.ntmps19
  go_wp2
  rw [← HW.out]
  clear HW
  go_region_with (go_at_call 26; refine (put_any w.heap.size v W.drew HK.out).mono ?_; rintro e w1 ⟨rfl, hb1, hk1⟩)
  obtain ⟨cs, hcs, hsz, hby⟩ := hk1
  have hR : w1.rangeAt w.heap.size 0 cs.toList := fun j u hu => by
    rw [Nat.zero_add, cell_of_row w1 _ _ _ _ _ hcs, ← Array.getElem?_toList]; exact hu
  have hs71 : (Yba.prog.info? 71).map (·.size) = some cs.toList.length := by rw [size71]; simp [hsz]
  have hlt : w.heap.size < w1.heap.size := (Array.getElem?_eq_some_iff.1 hcs).1
  have H1 : Hid (∀ i, i < 32 → ∃ x, cs[i]? = some (.int .u8 x)) := hby
  have H2 : Hid (cs.size = 32) := hsz
  have H3 : Hid (Below w.heap.size w w1) := HB.out.drew.trans hb1
  clear hcs hby hsz hb1 HB HK hs
  go_wp2_with (refine wpList_load_mid rfl 71 (.tmp 3) rfl w.heap.size 0 rfl cs.toList _ hR Yba.underlying71 rfl hs71 ?_)
  refine (chacha_any cs w1 H2.out H1.out).mono ?_
  rintro e w2 ⟨rfl, hb2⟩
  go_wp2_with (go_at_call 27; refine (new_any _ _ _).mono ?_; rintro e w3 ⟨rfl, hb3⟩)
  go_ret
  have hz := H3.out.size
  have hz2 := hb2.size
  exact ⟨_, rfl, (H3.out.trans (hb2.mono (by omega))).trans (hb3.mono (by omega))⟩

/-! ### newReservoir, NewWeighted -/
set_option maxRecDepth 100000 in
theorem reservoir_any (k : Int) (w : World) (hk : 0 ≤ k) :
    Calls Yba.prog 20 #[.int .i64 k] w fun e w' => e = .returned (.agg #[.int .i64 k, .slice none 0 0]) ∧ Below w.heap.size w w' := by
  have hk' : ¬ k < 0 := by omega
  go_enter Yba.func20, Yba.ntmps20
  go_wp2
  go_end0
  go_wp2
  exact bodyPost_ret (v := .agg #[.int .i64 k, .slice none 0 0]) (by simp [results, Yba.results20, go_sem]) rfl ⟨rfl, (Below.refl _ _).alloc (Nat.le_refl _) _⟩

set_option maxRecDepth 100000 in
theorem weighted_any (k v : Int) (w : World) (hk : 0 ≤ k) :
    Calls Yba.prog 13 #[.int .i64 k, .int .u64 v] w fun e w' => ∃ b p, e = .returned (.pointer (some ⟨b, 0, none⟩)) ∧ Below w.heap.size w w' ∧ w.heap.size ≤ b ∧
      w'.heap[b]? = some (.cells #[.pointer (some p), .int .i64 k, .slice none 0 0, .int .u64 0, .float .f64 0, .float .f64 0, .float .f64 0, .float .f64 0, .float .f64 0, .int .i64 0] 37 (0, 0)) := by
  go_enter Yba.func13, Yba.ntmps13
  go_wp2_with (first
    | (go_at_call 19; refine (rand_any _ _).mono ?_; rintro e w1 ⟨p, rfl, hb1⟩)
    | (go_at_call 20; refine (reservoir_any _ _ hk).mono ?_; rintro e w2 ⟨rfl, hb2⟩))
  go_ret
  have hz := hb1.size
  have hz2 := hb2.size
  exact ⟨_, p, rfl, (hb1.trans (hb2.mono hz)).alloc (by omega) _, by omega, heap_alloc_new _ _⟩
end Go.Proofs.Ybulkfqim.Rand
