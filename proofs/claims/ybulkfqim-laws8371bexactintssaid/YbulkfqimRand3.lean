import Derived.Test.YbulkfqimRand2
namespace Go.Proofs.Ybulkfqim.Rand
open Go.RowKit
set_option linter.unusedVariables false

/-- What holds of the world within Init's region. -/
structure In (w : World) (s B : Nat) (w' : World) : Prop where
  bytes : ∀ i, i < 32 → byteAt w' B i
  state : w'.there s 0 48
  lt : s < w'.heap.size
  below : Below s w w'
theorem In.drewN {w : World} {s B : Nat} {w' : World} (h : In w s B w') (n : Nat) : In w s B (w'.drewN n) :=
  ⟨fun i hi => h.bytes i hi, fun j hj => h.state j hj, h.lt, below_drewN h.below n⟩
theorem In.drew {w : World} {s B : Nat} {w' : World} (h : In w s B w') : In w s B w'.drew := h.drewN 1

set_option maxRecDepth 100000 in
set_option maxHeartbeats 800000 in
theorem init_any (s : Nat) (cs : Array Value) (w : World) (hcs : cs.size = 32) (hby : ∀ i, i < 32 → ∃ x, cs[i]? = some (.int .u8 x)) (ht : w.there s 0 48) (hs : s < w.heap.size) :
    Calls Yba.prog 35 #[.pointer (some ⟨s, 0, none⟩), .agg cs] w fun e w' => e = .returned (.tuple #[]) ∧ Below s w w' := by
  have h0 : In w s w.heap.size (w.alloc (.cells cs 71)) := ⟨fun i hi => by
    obtain ⟨x, hx⟩ := hby i hi
    exact ⟨x, by rw [World.cell?_alloc_at _ _ _ _ rfl]; exact hx⟩, World.there_alloc ht _, by simp; omega, (Below.refl _ _).alloc (by omega) _⟩
  go_enter Yba.func35, Yba.ntmps35
  go_wp2
  have hB : ∀ m i, i < 32 → byteAt ((w.alloc (.cells cs 71)).drewN m) w.heap.size i := fun m i hi => h0.bytes i hi
  have hI : ∀ m, ((w.alloc (.cells cs 71)).drewN m).there s 0 48 := fun m j hj => h0.state j hj
  have hI2 : ∀ m, s < ((w.alloc (.cells cs 71)).drewN m).heap.size := fun m => h0.lt
  have hI3 : ∀ m, Below s w ((w.alloc (.cells cs 71)).drewN m) := fun m => below_drewN h0.below m
  have HB : Hid (∀ m i, i < 32 → byteAt ((w.alloc (.cells cs 71)).drewN m) w.heap.size i) := hB
  have HI : Hid (∀ m, ((w.alloc (.cells cs 71)).drewN m).there s 0 48 ∧ s < ((w.alloc (.cells cs 71)).drewN m).heap.size ∧ Below s w ((w.alloc (.cells cs 71)).drewN m)) := fun m => ⟨hI m, hI2 m, hI3 m⟩
  clear hB hI hI2 hI3 h0 hby hcs ht
  rw [show w.alloc (.cells cs 71) = (w.alloc (.cells cs 71)).drewN 0 from rfl]
  go_region_with (first
    | (go_at_call 39; refine (le_any _ _ _ _ _ (by omega) (fun i hi => HB.out _ _ (by omega))).mono ?_; rintro e w' ⟨x, m, rfl, rfl⟩)
    | (go_at_call 38; refine (init64_any s _ _ _ _ _ (HI.out _).1 (HI.out _).2.1).mono ?_; rintro e w' ⟨rfl, hb⟩))
  go_wp2
  go_end0
  exact ⟨rfl, (HI.out _).2.2.trans hb⟩
end Go.Proofs.Ybulkfqim.Rand
