import Derived.Test.YbulkfqkcFmtWWalk
namespace Go.Proofs.YbulkfqkcFmt.RWalk
open Go.RowKit Go.Deep Go.Proofs.YbulkfqkcFmt.Parts Go.Proofs.YbulkfqkcFmt.WWalk
set_option linter.unusedVariables false

theorem str_ne {s t : ByteArray} (h : s ≠ t) : (s.toList == t.toList) = false := by
  refine beq_eq_false_iff_ne.2 fun e => h ?_
  rw [ByteArray.toList_eq, ByteArray.toList_eq] at e
  obtain ⟨⟨x⟩⟩ := s
  obtain ⟨⟨y⟩⟩ := t
  simpa using e
theorem str_eq (s : ByteArray) : (s.toList == s.toList) = true := by simp

set_option maxRecDepth 100000 in
set_option maxHeartbeats 400000 in
/-- slices.Index where the text is found, first at f. -/
theorem index_any (b off n c f : Nat) (S : Nat → ByteArray) (s : ByteArray) (w : World) (hn : n ≤ 1048576) (hf : f < n) (ha : ∀ i, i < n → w.cell? ⟨b, off + i, none⟩ = some (.string (S i))) (heq : S f = s) (hne : ∀ i, i < f → s ≠ S i) :
    Calls Ybaf.prog 10 #[.slice (some ⟨b, off, none⟩) n c, .string s] w fun e w' => e = .returned (.int .i64 f) ∧ w' = w := by
  go_enter Ybaf.func10, Ybaf.ntmps10
  go_wp2
  go_loop [8] (fun i => ∃ j : Nat, j ≤ f ∧ i = .int .i64 j) (fun i => f + 1 - (intOf i).toNat)
  case atStart => exact ⟨0, Nat.zero_le _, rfl⟩
  case round =>
    obtain ⟨j, hj, rfl⟩ := hrel
    have g1 := ha j (by omega)
    have hl : (j : Int) < (n : Int) := by omega
    by_cases hlt : j < f
    · have hs := str_ne (hne j hlt)
      clear ha hne heq
      go_wp2
      go_round
      case rel => exact ⟨j + 1, by omega, by go_num⟩
      case measure => simp [intOf]; omega
    · obtain rfl : j = f := by omega
      rw [heq] at g1
      clear ha hne heq
      go_wp2
      go_ret
      exact ⟨rfl, rfl⟩

set_option maxRecDepth 100000 in
set_option maxHeartbeats 400000 in
/-- unmarshal where the text is found, first at f. -/
theorem unmarshal_any (what s : ByteArray) (b off n c f g oc q : Nat) (S : Nat → ByteArray) (w : World) (hn : n ≤ 1048576) (hf : f < n) (ha : ∀ i, i < n → w.cell? ⟨b, off + i, none⟩ = some (.string (S i))) (heq : S f = s) (hne : ∀ i, i < f → s ≠ S i)
    (hbl : b < w.heap.size) (hq : q < w.heap.size) (hg : g < w.heap.size) (x : Int) (cq : w.cell? ⟨q, 0, none⟩ = some (.int .i64 x)) (fq : w.frozen? ⟨q, 0, none⟩ = false)
    (hcv : ∀ o : Obj, (convert 26 9 (.slice (some ⟨g, 0, none⟩) s.size oc)).run Ybaf.prog (w.alloc o) = .ok (.string s) (w.alloc o)) :
    Calls Ybaf.prog 8 #[.agg #[.string what, .slice (some ⟨b, off, none⟩) n c], .slice (some ⟨g, 0, none⟩) s.size oc, .pointer (some ⟨q, 0, none⟩)] w fun e w' => e = .returned .nilIface ∧
      w' = (w.setCell ⟨q, 0, none⟩ (.int .i64 f)).alloc (.cells #[.string what, .slice (some ⟨b, off, none⟩) n c] 25) := by
  have hf0 : ¬ ((f : Int) < 0) := by omega
  have HH : Hid ((∀ i, i < n → w.cell? ⟨b, off + i, none⟩ = some (.string (S i))) ∧ S f = s ∧ ∀ i, i < f → s ≠ S i) := ⟨ha, heq, hne⟩
  clear ha heq hne
  go_enter Ybaf.func8, Ybaf.ntmps8
  go_wp2_with fail
  refine (index_any b off n c f S s _ hn hf (fun i hi => ?_) HH.out.2.1 HH.out.2.2).mono ?_
  · rw [World.cell?_alloc_past _ _ _ hbl]; exact HH.out.1 i hi
  rintro e w1 ⟨rfl, rfl⟩
  go_wp2
  go_ret
  exact ⟨rfl, rfl⟩

/-- The first place at which the text of place v stands. -/
theorem first_at (S : Nat → ByteArray) (v : Nat) : ∃ f, f ≤ v ∧ S f = S v ∧ ∀ i, i < f → S v ≠ S i := by
  classical
  induction v using Nat.strongRecOn with
  | ind v ih =>
    by_cases h : ∃ i, i < v ∧ S i = S v
    · obtain ⟨i, hi, e⟩ := h
      obtain ⟨f, h1, h2, h3⟩ := ih i hi
      exact ⟨f, by omega, h2.trans e, fun j hj => by rw [← e]; exact h3 j hj⟩
    · exact ⟨v, Nat.le_refl _, rfl, fun i hi e => h ⟨i, hi, e.symm⟩⟩

/-- What is laid behind unmarshal. -/
theorem behind {w w2 : World} {a : Addr} {n : Nat} {S : Nat → ByteArray} (h : Inv w w2 a n S) (ha : 0 < n → a.block < w.heap.size) (hs : w2.heap.size = w.heap.size + 2 + 2) (f : Int) (o : Obj) (W : World)
    (hW : W = ((w2.alloc (.cells #[.int .i64 (-1)] 31)).setCell ⟨w.heap.size + 2 + 2, 0, none⟩ (.int .i64 f)).alloc o) : Inv w W a n S ∧ W.cell? ⟨w.heap.size + 2 + 2, 0, none⟩ = some (.int .i64 f) := by
  subst hW
  have hz : (w2.alloc (.cells #[.int .i64 (-1)] 31)).heap.size = w.heap.size + 5 := by simp [hs]
  have hq : w.heap.size + 1 ≤ w.heap.size + 2 + 2 := by omega
  have hb : Below (w.heap.size + 1) w2 ((w2.alloc (.cells #[.int .i64 (-1)] 31)).setCell ⟨w.heap.size + 2 + 2, 0, none⟩ (.int .i64 f)) := ((Below.refl _ _).alloc (by omega) _).setCell (p := ⟨w.heap.size + 2 + 2, 0, none⟩) hq _
  refine ⟨h.next (hb.alloc (by have := hb.size; omega) _) ha, ?_⟩
  rw [World.cell?_alloc_past _ _ _ (by simp [World.setCell, hs])]
  have h0 : (w2.alloc (.cells #[.int .i64 (-1)] 31)).cell? ⟨w.heap.size + 2 + 2, 0, none⟩ = some (.int .i64 (-1)) := by
    rw [World.cell?_alloc_at _ _ _ _ hs.symm]; rfl
  exact World.cell?_setCell_same _ _ _ h0

set_option maxRecDepth 100000 in
set_option maxHeartbeats 800000 in
theorem walk_in (b off n cap v f : Nat) (k : Int) (S : Nat → ByteArray) (w : World) (hn : n ≤ 1048576) (hl : Lies w ⟨b, off, none⟩ n S) (h0 : 0 < n) (hk : 0 ≤ k ∧ k ≤ 18446744073709551615) (hv : k % (n : Int) = (v : Int)) (hvn : v < n)
    (hf : f ≤ v) (heq : S f = S v) (hne : ∀ i, i < f → S v ≠ S i) :
    Calls Ybaf.prog 4 #[.slice (some ⟨b, off, none⟩) n cap, .int .u64 k] w fun e w' => e = .returned (.bool true) ∧ Below w.heap.size w w' := by
  have h15 : decide ((1048576 : Int) < (n : Int)) = false := by simp; omega
  have h16 : ((n : Int) == 0) = false := by simp; omega
  have h16' : ¬ (n : Int) = 0 := by omega
  have hk1 := hk.1
  have hk2 := hk.2
  have ha : b < w.heap.size := lt_of_lies hl (by omega)
  have HL : Hid (Lies w ⟨b, off, none⟩ n S) := hl
  have HH : Hid (S f = S v ∧ ∀ i, i < f → S v ≠ S i) := ⟨heq, hne⟩
  clear hl heq hne hk
  go_enter Ybaf.func4, Ybaf.ntmps4
  go_wp2_with fail
  refine (copy_some _ n cap S w hn HL.out).mono ?_
  rintro e w1 ⟨rfl, hb1, hrow, hsz⟩
  have HI : Hid (Inv w w1 ⟨b, off, none⟩ n S) := ⟨hb1, hrow, HL.out.below hb1 (fun _ => ha)⟩
  clear hrow HL hb1
  go_wp2_with fail
  refine (marshal_in ⟨#[120]⟩ (S v) b off n cap v _ hn hvn ?_).mono ?_
  · rw [World.cell?_alloc_past _ _ _ (by omega)]
    have := HI.out.lies v hvn
    rwa [Addr.add_mid] at this
  rintro e w2 ⟨oc, rfl, hb2, hsz2, hrow2⟩
  have HI2 : Hid (Inv w w2 ⟨b, off, none⟩ n S) := HI.out.next (((Below.refl _ _).alloc (by omega) _).trans (hb2.mono (by simp; omega))) (fun _ => ha)
  have e1 : (w1.alloc (.cells #[.string ⟨#[120]⟩, .slice (some ⟨b, off, none⟩) n cap] 25)).heap.size = w.heap.size + 2 := by simp [hsz]
  have t0 : w2.cell? ⟨w.heap.size + 1, 0, none⟩ = some (.string ⟨#[120]⟩) := by
    rw [hb2.cell (p := ⟨w.heap.size + 1, 0, none⟩) (by rw [e1]; show w.heap.size + 1 < _; omega), ← hsz, World.cell?_alloc_at _ _ _ _ rfl]; rfl
  have t1 : w2.cell? ⟨w.heap.size + 1, 1, none⟩ = some (.slice (some ⟨b, off, none⟩) n cap) := by
    rw [hb2.cell (p := ⟨w.heap.size + 1, 1, none⟩) (by rw [e1]; show w.heap.size + 1 < _; omega), ← hsz, World.cell?_alloc_at _ _ _ _ rfl]; rfl
  rw [e1] at hrow2 hsz2 ⊢
  have HR : Hid (w2.heap[w.heap.size + 3]? = some (.cells (bytesRow (S v) oc) 5 ((bytesRow (S v) oc).size, (bytesRow (S v) oc).size + 1))) := hrow2
  clear hb2 HI hrow2 e1
  have z1 : w.heap.size + 1 < w2.heap.size := by omega
  go_wp2_with fail
  have HT := HI2.out.lies
  refine (unmarshal_any ⟨#[120]⟩ (S v) b off n cap f (w.heap.size + 2 + 1) oc (w.heap.size + 2 + 2) S _ hn (by omega) (fun i hi => ?_) HH.out.1 HH.out.2 ?_ ?_ ?_ (-1) ?_ ?_ (fun o => ?_)).mono ?_
  · rw [World.cell?_alloc_past _ _ _ (by omega)]
    have := HT i hi
    rwa [Addr.add_mid] at this
  · simp; omega
  · simp; omega
  · simp; omega
  · rw [World.cell?_alloc_at _ _ _ _ hsz2.symm]; rfl
  · rw [World.frozen?_alloc_at _ _ _ _ hsz2.symm]
  · have hr : ((w2.alloc (.cells #[.int .i64 (-1)] 31)).alloc o).heap[w.heap.size + 3]? = some (.cells (bytesRow (S v) oc) 5 ((bytesRow (S v) oc).size, (bytesRow (S v) oc).size + 1)) := by
      rw [heap_alloc_old _ _ (by simp; omega), heap_alloc_old _ _ (by omega)]; exact HR.out
    exact (bytes_of _ _ _ _ hr).2 0 oc
  rintro e w3 ⟨rfl, hw3⟩
  obtain ⟨hI3, cq⟩ := behind HI2.out (fun _ => ha) hsz2 f _ w3 hw3
  have HI3 : Hid (Inv w w3 ⟨b, off, none⟩ n S) := hI3
  clear hw3 hI3 HI2 HR t0 t1 z1 hsz2 hsz HT
  go_wp2
  go_loopw [11, 12] (fun x i wr => x = .int .i64 (-1) ∧ ∃ j : Nat, j ≤ f ∧ i = .int .i64 j ∧ ∃ m, wr = w3.drewN m) (fun _ i _ => f + 1 - (intOf i).toNat)
  case atStart => exact ⟨rfl, 0, Nat.zero_le _, rfl, 0, rfl⟩
  case round =>
    obtain ⟨rfl, j, hj, rfl, m, rfl⟩ := hrel
    have hjn : j < n := by omega
    have g1 : w3.cell? ⟨w.heap.size, j, none⟩ = some (.string (S j)) := HI3.out.keep.cell hjn
    have g2 : w3.cell? ⟨w.heap.size, v, none⟩ = some (.string (S v)) := HI3.out.keep.cell hvn
    have q1 : (j : Int) < (n : Int) := by omega
    have q2 : (v : Int) < (n : Int) := by omega
    by_cases hlt : j < f
    · have hs := str_ne (fun h => HH.out.2 j hlt h.symm)
      go_wp2
      go_quiet (fail)
      go_wp2
      go_roundw
      case rel => exact ⟨rfl, j + 1, by omega, by go_num, _, rfl⟩
      case measure => simp [intOf]; omega
    · obtain rfl : j = f := by omega
      rw [HH.out.1] at g1
      go_wp2
      go_quiet (fail)
      go_wp2_with fail
      have hIm : Inv w (w3.drewN (m + nq)) ⟨b, off, none⟩ n S := HI3.out.next (below_drewN (Below.refl _ _) _) (fun _ => ha)
      refine (eq_inv cap n hn hIm).mono ?_
      rintro e w4 ⟨rfl, m4, rfl⟩
      go_wp2
      go_ret
      exact ⟨rfl, below_drewN HI3.out.below _⟩

set_option maxRecDepth 100000 in
theorem walk_big (a : Option Addr) (n cap : Nat) (k : Int) (w : World) (h : 1048576 < n) :
    Calls Ybaf.prog 4 #[.slice a n cap, .int .u64 k] w fun e w' => e = .returned (.bool true) ∧ Below w.heap.size w w' := by
  have h15 : decide ((1048576 : Int) < (n : Int)) = true := by simp; omega
  go_enter Ybaf.func4, Ybaf.ntmps4
  go_wp2
  go_ret
  exact ⟨rfl, Below.refl _ _⟩

set_option maxRecDepth 100000 in
theorem walk_empty (a : Option Addr) (cap : Nat) (k : Int) (w : World) :
    Calls Ybaf.prog 4 #[.slice a 0 cap, .int .u64 k] w fun e w' => e = .returned (.bool true) ∧ Below w.heap.size w w' := by
  go_enter Ybaf.func4, Ybaf.ntmps4
  go_wp2
  go_ret
  exact ⟨rfl, Below.refl _ _⟩

theorem walk (a : Option Addr) (n cap : Nat) (k : Int) (w : World) (h : IsStrs w a n cap) (hk : 0 ≤ k ∧ k ≤ 18446744073709551615) :
    Calls Ybaf.prog 4 #[.slice a n cap, .int .u64 k] w fun e w' => e = .returned (.bool true) ∧ Below w.heap.size w w' := by
  by_cases hn : 1048576 < n
  · exact walk_big a n cap k w hn
  by_cases h0 : n = 0
  · subst h0; exact walk_empty a cap k w
  rcases h with ⟨_, rfl, _⟩ | ⟨x, S, rfl, hl, hs⟩
  · exact absurd rfl h0
  obtain ⟨b, off, rfl, _, _⟩ := plain_of hl (by omega)
  have hm0 : 0 ≤ k % (n : Int) := Int.emod_nonneg _ (by omega)
  have hm1 : k % (n : Int) < (n : Int) := Int.emod_lt_of_pos _ (by omega)
  obtain ⟨v, hv⟩ := Int.eq_ofNat_of_zero_le hm0
  obtain ⟨f, h1, h2, h3⟩ := first_at S v
  exact walk_in b off n cap v f k S w (by omega) hl (by omega) hk hv (by omega) h1 h2 h3
end Go.Proofs.YbulkfqkcFmt.RWalk
