import Derived.Test.YbulkfqkcFmtParts
import Derived.Deep.MidRow
namespace Go.Proofs.YbulkfqkcFmt.WWalk
open Go.RowKit Go.Deep Go.Proofs.YbulkfqkcFmt.Parts
set_option linter.unusedVariables false

/-- What a slice of strings at address a holds. -/
def Lies (w : World) (a : Addr) (n : Nat) (S : Nat → ByteArray) : Prop := ∀ i, i < n → w.cell? (a.add i) = some (.string (S i))

theorem plain_of {w : World} {a : Addr} {n : Nat} {S : Nat → ByteArray} (h : Lies w a n S) (h0 : 0 < n) : ∃ b off, a = ⟨b, off, none⟩ ∧ b < w.heap.size ∧ ∀ i, i < n → w.cell? ⟨b, off + i, none⟩ = some (.string (S i)) := by
  obtain ⟨b, off, spot⟩ := a
  have hspot : spot = none := by simpa [Addr.add] using World.cell?_spot (h 0 h0)
  subst hspot
  refine ⟨b, off, rfl, ?_, fun i hi => ?_⟩
  · have := World.block_lt_of_cell? _ _ (h 0 h0)
    simpa [Addr.add] using this
  · have := h i hi
    rwa [Addr.add_mid] at this

theorem add_block (a : Addr) (i : Nat) : (a.add i).block = a.block := by unfold Addr.add; split <;> rfl

/-- The texts lie as they lay, and the copy of them lies in block N. -/
structure Inv (w wr : World) (a : Addr) (n : Nat) (S : Nat → ByteArray) : Prop where
  below : Below w.heap.size w wr
  keep : wr.rowIs w.heap.size 9 n (fun i => .string (S i))
  lies : Lies wr a n S

theorem Lies.below {w wr : World} {a : Addr} {n : Nat} {S : Nat → ByteArray} {B : Nat} (h : Lies w a n S) (hb : Below B w wr) (hB : 0 < n → a.block < B) : Lies wr a n S := fun i hi => by
  rw [hb.cell (p := a.add i) (by rw [add_block]; exact hB (by omega))]; exact h i hi

theorem Inv.next {w wr wr' : World} {a : Addr} {n : Nat} {S : Nat → ByteArray} (h : Inv w wr a n S) (hb : Below (w.heap.size + 1) wr wr') (ha : 0 < n → a.block < w.heap.size) : Inv w wr' a n S :=
  ⟨h.below.trans (hb.mono (by omega)), h.keep.of_block (hb.block _ (by omega)), h.lies.below hb (fun h0 => by have := ha h0; omega)⟩

/-- The comparison of the texts with their copy answers true. -/
theorem eq_inv {w wr : World} {a : Addr} {n : Nat} {S : Nat → ByteArray} (c d : Nat) (hn : n ≤ 1048576) (h : Inv w wr a n S) :
    Calls Ybaf.prog 7 #[.slice (some a) n c, .slice (some ⟨w.heap.size, 0, none⟩) n d] wr fun e w' => e = .returned (.bool true) ∧ ∃ m, w' = wr.drewN m := by
  by_cases h0 : n = 0
  · subst h0; exact eq_empty _ _ _ _ _
  · obtain ⟨b, off, rfl, _, hc⟩ := plain_of h.lies (by omega)
    exact eq_some b off w.heap.size n c d S wr hn hc (fun i hi => h.keep.cell hi)

theorem lt_of_lies {w : World} {a : Addr} {n : Nat} {S : Nat → ByteArray} (h : Lies w a n S) (h0 : 0 < n) : a.block < w.heap.size := by
  have := World.block_lt_of_cell? _ _ (h 0 h0)
  rwa [add_block] at this

set_option maxRecDepth 100000 in
set_option maxHeartbeats 800000 in
theorem walk_out (what : ByteArray) (a : Addr) (n cap : Nat) (v : Int) (S : Nat → ByteArray) (w : World) (hn : n ≤ 1048576) (hl : Lies w a n S) (hv : v < 0 ∨ (n : Int) ≤ v) :
    Calls Ybaf.prog 3 #[.string what, .slice (some a) n cap, .int .i64 v] w fun e w' => e = .returned (.bool true) ∧ Below w.heap.size w w' := by
  have q1 := fun (w : World) (a : Option Addr) (n c : Nat) => Lib.run_eql_slice_nil (P := Ybaf.prog) w 26 5 a n c 0 0 Ybaf.underlying26
  have h15 : decide ((1048576 : Int) < (n : Int)) = false := by simp; omega
  have ha := lt_of_lies hl
  have HL : Hid (Lies w a n S) := hl
  have HA : Hid (0 < n → a.block < w.heap.size) := ha
  have HV : Hid (v < 0 ∨ (n : Int) ≤ v) := hv
  clear hl ha hv
  go_enter Ybaf.func3, Ybaf.ntmps3
  go_wp2_with fail
  refine (copy_some a n cap S w hn HL.out).mono ?_
  rintro e w1 ⟨rfl, hb1, hrow, hsz⟩
  have HI : Hid (Inv w w1 a n S) := ⟨hb1, hrow, HL.out.below hb1 HA.out⟩
  clear hrow HL hb1
  go_wp2_with fail
  refine (marshal_out what (some a) n cap v _ hn HV.out).mono ?_
  rintro e w2 ⟨p, rfl, hb2⟩
  have HI2 : Hid (Inv w w2 a n S) := HI.out.next (((Below.refl _ _).alloc (by omega) _).trans (hb2.mono (by simp; omega))) HA.out
  clear hb2 HI
  go_wp2_with fail
  refine (eq_inv cap n hn HI2.out).mono ?_
  rintro e w3 ⟨rfl, m, rfl⟩
  rcases HV.out with h0 | h0
  · go_wp2
    go_ret
    exact ⟨rfl, below_drewN HI2.out.below _⟩
  · have hd : decide (v < (n : Int)) = false := by simp; omega
    have hp : 0 ≤ v := by omega
    go_wp2
    go_ret
    exact ⟨rfl, below_drewN HI2.out.below _⟩

set_option maxRecDepth 100000 in
set_option maxHeartbeats 800000 in
theorem walk_nil (what : ByteArray) (v : Int) (w : World) :
    Calls Ybaf.prog 3 #[.string what, .slice none 0 0, .int .i64 v] w fun e w' => e = .returned (.bool true) ∧ Below w.heap.size w w' := by
  have q1 := fun (w : World) (a : Option Addr) (n c : Nat) => Lib.run_eql_slice_nil (P := Ybaf.prog) w 26 5 a n c 0 0 Ybaf.underlying26
  go_enter Ybaf.func3, Ybaf.ntmps3
  go_wp2_with fail
  refine (copy_nil w).mono ?_
  rintro e w1 ⟨rfl, rfl⟩
  go_wp2_with fail
  refine (marshal_out what none 0 0 v _ (by omega) (by omega)).mono ?_
  rintro e w2 ⟨p, rfl, hb2⟩
  have HB : Hid (Below w1.heap.size w1 w2) := ((Below.refl _ _).alloc (Nat.le_refl _) _).trans (hb2.mono (by simp))
  clear hb2
  go_wp2_with fail
  refine (eq_nil _).mono ?_
  rintro e w3 ⟨rfl, m, rfl⟩
  by_cases h0 : v < 0
  · go_wp2
    go_ret
    exact ⟨rfl, below_drewN HB.out _⟩
  · have hp : 0 ≤ v := by omega
    have hd : decide (v < 0) = false := by simp; omega
    go_wp2
    go_ret
    exact ⟨rfl, below_drewN HB.out _⟩

/-- N bytes lie at the head of block g, and may be written. -/
def Bytes (w : World) (g N : Nat) : Prop := ∀ j, j < N → (∃ x, w.cell? ⟨g, j, none⟩ = some (.int .u8 x)) ∧ w.frozen? ⟨g, j, none⟩ = false

theorem Bytes.set {w : World} {g N : Nat} (h : Bytes w g N) (i : Nat) (hi : i < N) (y : Int) : Bytes (w.setCell ⟨g, i, none⟩ (.int .u8 y)) g N := fun j hj => by
  refine ⟨?_, by rw [World.frozen?_setCell]; exact (h j hj).2⟩
  by_cases e : j = i
  · subst e
    obtain ⟨x, hx⟩ := (h j hj).1
    exact ⟨y, World.cell?_setCell_same w _ _ hx⟩
  · obtain ⟨x, hx⟩ := (h j hj).1
    exact ⟨x, by rw [World.cell?_setCell_other w _ _ _ (fun h => e (by injection h with _ h _; exact h.symm))]; exact hx⟩

theorem bytes_of (w : World) (g cap : Nat) (s : ByteArray) (h : w.heap[g]? = some (.cells (bytesRow s cap) 5 ((bytesRow s cap).size, (bytesRow s cap).size + 1))) :
    Bytes w g s.size ∧ ∀ m oc, (convert 26 9 (.slice (some ⟨g, 0, none⟩) s.size oc)).run Ybaf.prog (w.drewN m) = .ok (.string s) (w.drewN m) := by
  have hcell : ∀ j (hj : j < s.data.size), w.cell? ⟨g, j, none⟩ = some (.int .u8 (s.data[j].toNat : Int)) := fun j hj => by
    rw [cell_of_row w _ _ _ _ _ h, bytesRow_at s cap j hj]
  have hsz : s.size ≤ (bytesRow s cap).size := by unfold bytesRow; simp
  refine ⟨fun j hj => ⟨⟨_, hcell j hj⟩, ?_⟩, fun m oc => ?_⟩
  · simp [World.frozen?, h]; omega
  · have := run_convert_bytes_back (P := Ybaf.prog) (w.drewN m) 26 9 5 ⟨g, 0, none⟩ oc s.data.toList Ybaf.underlying26 Ybaf.underlying5 Ybaf.underlying9 (fun j hj => by
      rw [Addr.add_mid, Nat.zero_add]
      have := hcell j (by simpa using hj)
      simpa using this)
    have el : s.data.toList.length = s.size := by simp
    rw [el] at this
    simpa using this

theorem Inv.set {w wr : World} {a : Addr} {n : Nat} {S : Nat → ByteArray} (h : Inv w wr a n S) {g : Nat} (hg : w.heap.size + 1 < g) (i : Nat) (v : Value) (ha : 0 < n → a.block < w.heap.size) : Inv w (wr.setCell ⟨g, i, none⟩ v) a n S :=
  h.next ((Below.refl _ _).setCell (p := ⟨g, i, none⟩) (by show w.heap.size + 1 ≤ g; omega) v) ha

set_option maxRecDepth 100000 in
set_option maxHeartbeats 800000 in
theorem walk_in (what : ByteArray) (b off n cap k : Nat) (S : Nat → ByteArray) (w : World) (hn : n ≤ 1048576) (hl : Lies w ⟨b, off, none⟩ n S) (hk : k < n) (hs : (S k).size ≤ maxLen) :
    Calls Ybaf.prog 3 #[.string what, .slice (some ⟨b, off, none⟩) n cap, .int .i64 k] w fun e w' => e = .returned (.bool true) ∧ Below w.heap.size w w' := by
  have h15 : decide ((1048576 : Int) < (n : Int)) = false := by simp; omega
  have hkl : (k : Int) < (n : Int) := by omega
  have ha : b < w.heap.size := lt_of_lies hl (by omega)
  have HL : Hid (Lies w ⟨b, off, none⟩ n S) := hl
  clear hl
  go_enter Ybaf.func3, Ybaf.ntmps3
  go_wp2_with fail
  refine (copy_some _ n cap S w hn HL.out).mono ?_
  rintro e w1 ⟨rfl, hb1, hrow, hsz⟩
  have HI : Hid (Inv w w1 ⟨b, off, none⟩ n S) := ⟨hb1, hrow, HL.out.below hb1 (fun _ => ha)⟩
  clear hrow HL hb1
  go_wp2_with fail
  refine (marshal_in what (S k) b off n cap k _ hn hk ?_).mono ?_
  · rw [World.cell?_alloc_past _ _ _ (by omega)]
    have := HI.out.lies k hk
    rwa [Addr.add_mid] at this
  rintro e w2 ⟨oc, rfl, hb2, hsz2, hrow2⟩
  have HI2 : Hid (Inv w w2 ⟨b, off, none⟩ n S) := HI.out.next (((Below.refl _ _).alloc (by omega) _).trans (hb2.mono (by simp; omega))) (fun _ => ha)
  have e2 : (w1.alloc (.cells #[.string what, .slice (some ⟨b, off, none⟩) n cap] 25)).heap.size + 1 = w.heap.size + 3 := by simp [hsz]
  rw [e2] at hrow2 ⊢
  clear hb2 HI hsz2 e2
  obtain ⟨g, hg⟩ : ∃ g, g = w.heap.size + 3 := ⟨_, rfl⟩
  rw [← hg] at hrow2 ⊢
  have hg2 : w.heap.size + 1 < g := by omega
  clear hg
  go_wp2_with fail
  refine (eq_inv cap n hn HI2.out).mono ?_
  rintro e w3 ⟨rfl, m, rfl⟩
  obtain ⟨hB, hcv⟩ := bytes_of w2 g oc (S k) hrow2
  have ck : w2.cell? ⟨w.heap.size, k, none⟩ = some (.string (S k)) := HI2.out.keep.cell hk
  have HB : Hid (Bytes w2 g (S k).size) := hB
  clear hB hrow2
  unfold maxLen at hs
  go_wp2
  go_quiet (fail)
  go_wp2
  clear hcv ck
  go_loopw [12] (fun i wr => ∃ j : Nat, j ≤ (S k).size ∧ i = .int .i64 j ∧ Inv w wr ⟨b, off, none⟩ n S ∧ Bytes wr g (S k).size) (fun i _ => (S k).size - (intOf i).toNat)
  case atStart => exact ⟨0, Nat.zero_le _, rfl, HI2.out.next (below_drewN (below_drewN (Below.refl _ _) _) _) (fun _ => ha), HB.out⟩
  case round =>
    obtain ⟨j, hj, rfl, hI, hB⟩ := hrel
    have HIr : Hid (Inv w wr ⟨b, off, none⟩ n S) := hI
    have HBr : Hid (Bytes wr g (S k).size) := hB
    clear hI HB HI2
    by_cases hlt : j < (S k).size
    · obtain ⟨⟨x, hx⟩, hf⟩ := hB j hlt
      clear hB
      go_wp2
      go_roundw
      case rel => exact ⟨j + 1, by omega, by go_num, HIr.out.set hg2 _ _ (fun _ => ha), HBr.out.set j hlt _⟩
      case measure => simp [intOf]; omega
    · have hd : decide ((j : Int) < ((S k).size : Int)) = false := by simp; omega
      clear hB
      go_wp2_with fail
      refine (eq_inv cap n hn HIr.out).mono ?_
      rintro e w3 ⟨rfl, m3, rfl⟩
      go_wp2
      go_ret
      exact ⟨rfl, below_drewN HIr.out.below _⟩

set_option maxRecDepth 100000 in
theorem walk_big (what : ByteArray) (a : Option Addr) (n cap : Nat) (v : Int) (w : World) (h : 1048576 < n) :
    Calls Ybaf.prog 3 #[.string what, .slice a n cap, .int .i64 v] w fun e w' => e = .returned (.bool true) ∧ Below w.heap.size w w' := by
  have h15 : decide ((1048576 : Int) < (n : Int)) = true := by simp; omega
  go_enter Ybaf.func3, Ybaf.ntmps3
  go_wp2
  go_ret
  exact ⟨rfl, Below.refl _ _⟩

/-- What the walk is told of a slice of strings that came in. -/
def IsStrs (w : World) (a : Option Addr) (n cap : Nat) : Prop :=
  (a = none ∧ n = 0 ∧ cap = 0) ∨ ∃ x S, a = some x ∧ Lies w x n S ∧ ∀ i, i < n → (S i).size ≤ maxLen

theorem walk (what : ByteArray) (a : Option Addr) (n cap : Nat) (v : Int) (w : World) (h : IsStrs w a n cap) :
    Calls Ybaf.prog 3 #[.string what, .slice a n cap, .int .i64 v] w fun e w' => e = .returned (.bool true) ∧ Below w.heap.size w w' := by
  by_cases hn : 1048576 < n
  · exact walk_big what a n cap v w hn
  rcases h with ⟨rfl, rfl, rfl⟩ | ⟨x, S, rfl, hl, hs⟩
  · exact walk_nil what v w
  by_cases hv : v < 0 ∨ (n : Int) ≤ v
  · exact walk_out what x n cap v S w (by omega) hl hv
  · obtain ⟨b, off, rfl, _, _⟩ := plain_of hl (by omega)
    obtain ⟨k, rfl⟩ := Int.eq_ofNat_of_zero_le (show 0 ≤ v by omega)
    exact walk_in what b off n cap k S w (by omega) hl (by omega) (hs k (by omega))
end Go.Proofs.YbulkfqkcFmt.WWalk
