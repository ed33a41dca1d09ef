import Derived.Test.YbulkfqimRand3
namespace Go.Proofs.Ybulkfqim.Rand
open Go.RowKit
set_option linter.unusedVariables false

theorem size71 : (Yba.prog.info? 71).map (·.size) = some 32 := by kernel_rfl

def zero48 : Array Value := #[.int .u64 0, .int .u64 0, .int .u64 0, .int .u64 0, .int .u64 0, .int .u64 0, .int .u64 0, .int .u64 0, .int .u64 0, .int .u64 0, .int .u64 0, .int .u64 0, .int .u64 0, .int .u64 0, .int .u64 0, .int .u64 0, .int .u64 0, .int .u64 0, .int .u64 0, .int .u64 0, .int .u64 0, .int .u64 0, .int .u64 0, .int .u64 0, .int .u64 0, .int .u64 0, .int .u64 0, .int .u64 0, .int .u64 0, .int .u64 0, .int .u64 0, .int .u64 0, .int .u64 0, .int .u64 0, .int .u64 0, .int .u64 0, .int .u32 0, .int .u32 0, .int .u32 0, .int .u8 0, .int .u8 0, .int .u8 0, .int .u8 0, .int .u8 0, .int .u8 0, .int .u8 0, .int .u8 0, .int .i64 0]

theorem chacha_facts (w : World) (cs C : Array Value) (hC : C.size = 48) (W : World) (hW : W = (w.alloc (.cells cs 71)).alloc (.cells C 91)) :
    W.rangeAt w.heap.size 0 cs.toList ∧ W.there (w.heap.size + 1) 0 48 ∧ w.heap.size + 1 < W.heap.size ∧ Below w.heap.size w W := by
  have hb1 : W.heap[w.heap.size]? = some (.cells cs 71 (0, 0)) := by
    rw [hW]; exact heap_alloc2_old w _ _
  have hb2 : W.heap[w.heap.size + 1]? = some (.cells C 91 (0, 0)) := by
    rw [hW]; exact heap_alloc2_new w _ _
  refine ⟨fun j v hv => ?_, fun j hj => ⟨?_, ?_⟩, by rw [hW]; simp, by rw [hW]; exact ((Below.refl _ _).alloc (Nat.le_refl _) _).alloc (by simp) _⟩
  · rw [Nat.zero_add, cell_of_row W _ _ _ _ _ hb1, ← Array.getElem?_toList]; exact hv
  · rw [Nat.zero_add, cell_of_row W _ _ _ _ _ hb2, Array.getElem?_eq_getElem (by omega)]; rfl
  · rw [Nat.zero_add]; exact frozen_of_row W _ _ _ _ hb2

set_option maxRecDepth 100000 in
set_option maxHeartbeats 800000 in
theorem chacha_any (cs : Array Value) (w : World) (hcs : cs.size = 32) (hby : ∀ i, i < 32 → ∃ x, cs[i]? = some (.int .u8 x)) :
    Calls Yba.prog 28 #[.agg cs] w fun e w' => e = .returned (.pointer (some ⟨w.heap.size + 1, 0, none⟩)) ∧ Below w.heap.size w w' := by
  obtain ⟨W, hW⟩ : ∃ W, W = (w.alloc (.cells cs 71)).alloc (.cells zero48 91) := ⟨_, rfl⟩
  obtain ⟨hR, hT, hs, hB⟩ := chacha_facts w cs zero48 rfl W hW
  unfold zero48 at hW
  have HW : Hid (W = _) := hW
  have hu := Yba.underlying71
  have hsz : (Yba.prog.info? 71).map (·.size) = some cs.toList.length := by rw [size71]; simp [hcs]
  have H1 : Hid (∀ i, i < 32 → ∃ x, cs[i]? = some (.int .u8 x)) := hby
  have H2 : Hid (W.there (w.heap.size + 1) 0 48 ∧ w.heap.size + 1 < W.heap.size ∧ Below w.heap.size w W) := ⟨hT, hs, hB⟩
  have H3 : Hid (W.rangeAt w.heap.size 0 cs.toList) := hR
  have H4 : Hid (cs.size = 32) := hcs
  clear hW hby hR hT hs hB hcs
  go_enter Yba.func28, Yba.ntmps28
  go_wp2
  rw [← HW.out]
  clear HW
  go_region_held3 (fun w' => w'.rangeAt w.heap.size 0 cs.toList) (first | exact H3.out | exact (fun j v hv => (hb.cell (Nat.lt_succ_self _)).trans (H3.out j v hv)))
    (first
      | (go_at_call 35; refine (init_any (w.heap.size + 1) cs W.drew H4.out H1.out H2.out.1 H2.out.2.1).mono ?_; rintro e w' ⟨rfl, hb⟩))
  go_wp2
  go_ret
  exact ⟨rfl, H2.out.2.2.drew.trans (Below.mono (B := w.heap.size + 1) hb (by omega))⟩
end Go.Proofs.Ybulkfqim.Rand
