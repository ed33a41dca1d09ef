import Derived.Test.YbulkfrusBase
namespace Go.Proofs.Ybulkfrus.Walk
open Go.RowKit Go.Proofs.Ybulkfrus.Base
set_option linter.unusedVariables false

theorem ret_val {a b : Value} (h : a = b) : Ending.returned a = .returned b := by rw [h]

set_option maxRecDepth 100000 in
theorem step_any (s : Stp) (w : World) :
    Calls Yba.prog 8 #[.agg #[.bool s.il, .string s.key, .int .u64 s.ctr, .string s.rep]] w fun e w' => e = .returned (.agg #[.bool s.il, .string s.key, .int .u64 s.ctr, .string s.rep]) ∧ Below w.heap.size w w' := by
  obtain ⟨il, key, ctr, rep⟩ := s
  go_enter Yba.func8, Yba.ntmps8
  go_wp2
  exact bodyPost_ret (v := .agg #[.bool il, .string key, .int .u64 ctr, .string rep]) (by simp [results, Yba.results8, go_sem]) rfl ⟨rfl, ((Below.refl _ _).alloc (Nat.le_refl _) _).alloc (by simp) _⟩

set_option maxRecDepth 100000 in
theorem len_any (β : Nat → Nat) (S : Nat → Stp) (L d : Nat) (w : World) (h : PathIs w β S L) (hd : d ≤ L) :
    Calls Yba.prog 7 #[ptrAt β d] w fun e w' => e = .returned (.int .i64 d) ∧ w' = w := by
  cases d with
  | zero =>
    show Calls Yba.prog 7 #[.pointer none] w _
    go_enter Yba.func7, Yba.ntmps7
    go_wp2
    go_ret
    exact ⟨rfl, rfl⟩
  | succ i =>
    have c5 : w.cell? ⟨β i, 5, none⟩ = some (.int .i64 ((i : Int) + 1)) := cell_of_row w _ _ _ _ _ (h i (by omega))
    show Calls Yba.prog 7 #[.pointer (some ⟨β i, 0, none⟩)] w _
    clear h
    go_enter Yba.func7, Yba.ntmps7
    go_wp2
    go_ret
    exact ⟨rfl, rfl⟩

/-- The steps of a path that goes on by the steps T behind L steps S. -/
def thenS (S T : Nat → Stp) (L : Nat) (i : Nat) : Stp := if i < L then S i else T (i - L)

/-- What extend has made after j of its rounds. -/
structure Ext (w wr : World) (β : Nat → Nat) (S T : Nat → Stp) (L j : Nat) (γ : Nat → Nat) : Prop where
  below : Below w.heap.size w wr
  path : PathIs wr γ (thenS S T L) (L + j)
  old : ∀ i, i < L → γ i = β i
  new : ∀ i, L ≤ i → i < L + j → w.heap.size ≤ γ i

theorem ext_start (w : World) (β : Nat → Nat) (S T : Nat → Stp) (L : Nat) (h : PathIs w β S L) : Ext w w β S T L 0 β :=
  ⟨Below.refl _ _, fun i hi => by rw [h i hi, node_congr (fun _ _ => rfl) (show thenS S T L i = S i from if_pos (show i < L from hi))], fun _ _ => rfl, fun i h1 h2 => by omega⟩

/-- A round: w1 is the world behind the call of step. -/
theorem ext_round {w wr w1 : World} {β : Nat → Nat} {S T : Nat → Stp} {L j : Nat} {γ : Nat → Nat} (h : Ext w wr β S T L j γ) (hb : Below wr.heap.size wr w1) :
    Ext w (w1.alloc (.cells #[ptrAt γ (L + j), .bool (T j).il, .string (T j).key, .int .u64 (T j).ctr, .string (T j).rep, .int .i64 ((L + j : Nat) + 1 : Int)] 35)) β S T L (j + 1) (fun i => if i = L + j then w1.heap.size else γ i) := by
  have hw : w.heap.size ≤ wr.heap.size := h.below.size
  have hw1 := hb.size
  have hst : thenS S T L (L + j) = T j := by unfold thenS; rw [if_neg (by omega), Nat.add_sub_cancel_left]
  refine ⟨(h.below.trans (hb.mono hw)).alloc (by omega) _, ?_, fun i hi => by rw [if_neg (by omega)]; exact h.old i hi, fun i h1 h2 => ?_⟩
  · refine h.path.more (w' := _) (hb.alloc hw1 _) (fun i hi => by rw [if_neg (by omega)]) (fun _ _ => rfl) ?_
    rw [if_pos rfl, hst]
    exact heap_alloc_new w1 _
  · by_cases e : i = L + j
    · rw [if_pos e]; omega
    · rw [if_neg e]; exact h.new i h1 (by omega)

theorem ext_end {w wr w1 : World} {β : Nat → Nat} {S T : Nat → Stp} {L j : Nat} {γ : Nat → Nat} (h : Ext w wr β S T L j γ) (hb : Below wr.heap.size wr w1) (p : Value) (v : Int) (hp : ptrAt γ (L + j) = p) (hv : v = ((L + j : Nat) : Int) + 1) :
    ∃ γ', .pointer (some ⟨w1.heap.size, 0, none⟩) = ptrAt γ' (L + (j + 1)) ∧ Ext w (w1.alloc (.cells #[p, .bool (T j).il, .string (T j).key, .int .u64 (T j).ctr, .string (T j).rep, .int .i64 v] 35)) β S T L (j + 1) γ' := by
  subst hp hv
  refine ⟨_, ?_, ext_round h hb⟩
  show _ = ptrAt _ (L + j + 1)
  simp only [ptrAt, if_pos]

set_option maxRecDepth 100000 in
set_option maxHeartbeats 800000 in
theorem extend_some (β : Nat → Nat) (S T : Nat → Stp) (L b off n c : Nat) (w : World) (hL : L + n ≤ 2097152) (h : PathIs w β S L) (hb : b < w.heap.size) (hl : SLie w b off n T) :
    Calls Yba.prog 4 #[ptrAt β L, .slice (some ⟨b, off, none⟩) n c] w fun e w' => ∃ γ, e = .returned (ptrAt γ (L + n)) ∧ Ext w w' β S T L n γ := by
  have h0 := ext_start w β S T L h
  obtain ⟨p0, hp0⟩ : ∃ p0, p0 = ptrAt β L := ⟨_, rfl⟩
  have HP : Hid (p0 = ptrAt β L) := hp0
  rw [← hp0]
  clear hp0
  go_enter Yba.func4, Yba.ntmps4
  go_wp2
  go_loopw [0, 5] (fun p i wr => ∃ j : Nat, j ≤ n ∧ i = .int .i64 j ∧ ∃ γ, p = ptrAt γ (L + j) ∧ Ext w wr β S T L j γ) (fun _ i _ => n - (intOf i).toNat)
  case atStart => exact ⟨0, Nat.zero_le _, rfl, β, HP.out, h0⟩
  case round =>
    clear h0 h HP
    obtain ⟨j, hj, rfl, γ, hp, hE⟩ := hrel
    by_cases hlt : j < n
    · obtain ⟨g0, g1, g2, g3⟩ := (hl.below hE.below hb) j hlt
      have hq : (j : Int) < (n : Int) := by omega
      have HE : Hid (Ext w wr β S T L j γ) := hE
      rcases Nat.eq_zero_or_pos (L + j) with hd | hd
      · have HX : Hid (ptrAt γ (L + j) = .pointer none) := by rw [hd]; rfl
        have HD : Hid (L + j = 0) := hd
        rw [HX.out] at hp
        subst hp
        clear hl hE hd
        go_wp2_with fail
        refine (step_any (T j) _).mono ?_
        rintro e w1 ⟨rfl, hb1⟩
        have HB : Hid (Below wr.heap.size wr w1) := hb1
        clear hb1 g0 g1 g2 g3
        go_wp2
        go_roundw
        case rel => exact ⟨j + 1, by omega, by go_num, ext_end HE.out HB.out _ _ HX.out (by have := HD.out; omega)⟩
        case measure => simp [intOf]; omega
      · obtain ⟨d, hd'⟩ : ∃ d, L + j = d + 1 := ⟨L + j - 1, by omega⟩
        have c5 : wr.cell? ⟨γ d, 5, none⟩ = some (.int .i64 ((d : Int) + 1)) := cell_of_row wr _ _ _ _ _ (hE.path d (by omega))
        have HX : Hid (ptrAt γ (L + j) = .pointer (some ⟨γ d, 0, none⟩)) := by rw [hd']; rfl
        have HD : Hid (L + j = d + 1) := hd'
        have hdd : d ≤ 2097152 := by omega
        rw [HX.out] at hp
        subst hp
        clear hl hE hd hd'
        go_wp2_with fail
        refine (step_any (T j) _).mono ?_
        rintro e w1 ⟨rfl, hb1⟩
        have HB : Hid (Below wr.heap.size wr w1) := hb1
        clear hb1 g0 g1 g2 g3
        go_wp2
        go_roundw
        case rel => exact ⟨j + 1, by omega, by go_num, ext_end HE.out HB.out _ _ HX.out (by have := HD.out; omega)⟩
        case measure => simp [intOf]; omega
    · have hd : decide ((j : Int) < (n : Int)) = false := by simp; omega
      obtain rfl : j = n := by omega
      have HP : Hid (_ = ptrAt γ (L + j)) := hp
      clear hp hl
      go_wp2
      go_ret
      exact ⟨γ, ret_val HP.out, hE⟩

set_option maxRecDepth 100000 in
theorem extend_none (p : Value) (a : Option Addr) (c : Nat) (w : World) : Calls Yba.prog 4 #[p, .slice a 0 c] w fun e w' => e = .returned p ∧ w' = w := by
  go_enter Yba.func4, Yba.ntmps4
  go_wp2
  refine wp_loop_rounds 1 ?_
  rw [rounds_succ]
  go_wp2
  go_ret
  exact ⟨rfl, rfl⟩

theorem extend_any (β : Nat → Nat) (S T : Nat → Stp) (L n c : Nat) (a : Option Addr) (w : World) (hL : L + n ≤ 2097152) (h : PathIs w β S L) (hl : StpsAt w a n T) :
    Calls Yba.prog 4 #[ptrAt β L, .slice a n c] w fun e w' => ∃ γ, e = .returned (ptrAt γ (L + n)) ∧ Ext w w' β S T L n γ := by
  by_cases h0 : n = 0
  · subst h0
    refine (extend_none (ptrAt β L) a c w).mono ?_
    rintro e w' ⟨rfl, rfl⟩
    exact ⟨β, rfl, ext_start _ β S T L h⟩
  · obtain ⟨b, off, rfl, hb, hs⟩ := hl (by omega)
    exact extend_some β S T L b off n c w hL h hb hs
end Go.Proofs.Ybulkfrus.Walk
