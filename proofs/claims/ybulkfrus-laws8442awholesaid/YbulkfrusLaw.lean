import Derived.Test.YbulkfrusAt
namespace Go.Proofs.Ybulkfrus.Walk
open Go.RowKit Go.Proofs.Ybulkfrus.Base
set_option linter.unusedVariables false

set_option maxRecDepth 100000 in
set_option maxHeartbeats 400000 in
/-- Beyond the law's own limit. -/
theorem law_big (a1 a2 a3 : Option Addr) (n1 c1 n2 c2 n3 c3 : Nat) (sb : Bool) (w : World) (hr : n1 + n2 + n3 < 2 ^ 60) (hbig : 1048576 < n1 + n2 + n3) :
    Calls Yba.prog 3 #[.slice a1 n1 c1, .slice a2 n2 c2, .slice a3 n3 c3, .bool sb] w fun e w' => e = .returned (.bool true) ∧ Below w.heap.size w w' := by
  have hq : (1048576 : Int) < (n1 : Int) + (n2 : Int) + (n3 : Int) := by omega
  go_enter Yba.func3, Yba.ntmps3
  go_wp2
  go_ret
  exact ⟨rfl, Below.refl _ _⟩

/-- extend from nil. -/
theorem extend_nil (C : Nat → Stp) (n c : Nat) (a : Option Addr) (w : World) (hL : n ≤ 2097152) (hl : StpsAt w a n C) :
    Calls Yba.prog 4 #[.pointer none, .slice a n c] w fun e w' => ∃ γ, e = .returned (ptrAt γ n) ∧ Below w.heap.size w w' ∧ PathIs w' γ C n ∧ ∀ i, i < n → w.heap.size ≤ γ i := by
  refine (extend_any (fun _ => 0) C C 0 n c a w (by omega) (fun i hi => by omega) hl).mono ?_
  rintro e w' ⟨γ, rfl, hE⟩
  refine ⟨γ, by rw [Nat.zero_add], hE.below, fun i hi => ?_, fun i hi => hE.new i (by omega) (by omega)⟩
  have := hE.path i (by omega)
  rw [this, node_congr (fun _ _ => rfl) (show thenS C C 0 i = C i from by unfold thenS; rw [if_neg (by omega)]; rfl)]

/-- The two paths, one beside the other: they have the first c nodes in common, and none behind them. -/
structure Two (w : World) (β γ : Nat → Nat) (S T : Nat → Stp) (lp lq c : Nat) : Prop where
  p : PathIs w β S lp
  q : PathIs w γ T lq
  hc : c ≤ min lp lq
  same : ∀ i, i < c → β i = γ i
  diff : ∀ i, c ≤ i → i < min lp lq → β i ≠ γ i
  steps : ∀ i, i < c → eqB (S i) (T i) = true

theorem Two.below {w w' : World} {β γ : Nat → Nat} {S T : Nat → Stp} {lp lq c : Nat} (h : Two w β γ S T lp lq c) (hb : Below w.heap.size w w') : Two w' β γ S T lp lq c :=
  ⟨h.p.below hb, h.q.below hb, h.hc, h.same, h.diff, h.steps⟩

theorem two_shared {w1 w2 w3 : World} {γ0 γ1 γ2 : Nat → Nat} {C A B : Nat → Stp} {n1 n2 n3 : Nat} (h2 : Ext w1 w2 γ0 C A n1 n2 γ1) (h3 : Ext w2 w3 γ0 C B n1 n3 γ2) :
    Two w3 γ1 γ2 (thenS C A n1) (thenS C B n1) (n1 + n2) (n1 + n3) n1 :=
  ⟨h2.path.below h3.below, h3.path, by omega, fun i hi => (h2.old i hi).trans (h3.old i hi).symm, fun i h1 hi => by
    have a := h2.path.lt (i := i) (by omega)
    have b := h3.new i h1 (by omega)
    omega, fun i hi => by
    rw [show thenS C A n1 i = C i from if_pos hi, show thenS C B n1 i = C i from if_pos hi]; exact eqB_refl _⟩

theorem two_apart {w1 w1' w2 w3 : World} {γ0 γ0' γ1 γ2 : Nat → Nat} {C A B : Nat → Stp} {n1 n2 n3 : Nat} (h0 : PathIs w1 γ0 C n1) (h0' : ∀ i, i < n1 → w1.heap.size ≤ γ0' i)
    (h2 : Ext w1' w2 γ0 C A n1 n2 γ1) (h3 : Ext w2 w3 γ0' C B n1 n3 γ2) : Two w3 γ1 γ2 (thenS C A n1) (thenS C B n1) (n1 + n2) (n1 + n3) 0 :=
  ⟨h2.path.below h3.below, h3.path, by omega, fun i hi => by omega, fun i _ hi => by
    by_cases hlt : i < n1
    · have a := h0.lt hlt
      have b := h0' i hlt
      rw [h2.old i hlt, h3.old i hlt]
      omega
    · have a := h2.path.lt (i := i) (by omega)
      have b := h3.new i (by omega) (by omega)
      omega, fun i hi => by omega⟩

theorem Two.shared {w : World} {β γ : Nat → Nat} {S T : Nat → Stp} {lp lq c : Nat} (h : Two w β γ S T lp lq c) (h1 : lp ≤ 2097152) (h2 : lq ≤ 2097152) (W : Nat) (hW : W ≤ min lp lq) (hs : ∀ i, i < W → eqB (S i) (T i) = true) (hl : W = min lp lq ∨ eqB (S W) (T W) = false) :
    Calls Yba.prog 6 #[ptrAt β lp, ptrAt γ lq] w fun e w' => e = .returned (.int .i64 W) ∧ ∃ k, w' = w.drewN k :=
  shared_any β γ S T lp lq c w h1 h2 h.p h.q h.hc h.same h.diff h.steps W ⟨Nat.zero_le _, hW, fun i _ hi => hs i hi, hl⟩

theorem below_drewN {B : Nat} {a w : World} (h : Below B a w) (k : Nat) : Below B a (w.drewN k) := ⟨h.os, h.tape, h.output, h.size, h.block⟩

set_option maxRecDepth 100000 in
set_option maxHeartbeats 1600000 in
theorem law_shared (C A B : Nat → Stp) (a1 a2 a3 : Option Addr) (n1 c1 n2 c2 n3 c3 : Nat) (w : World) (hlim : n1 + n2 + n3 ≤ 1048576) (h1 : StpsAt w a1 n1 C) (h2 : StpsAt w a2 n2 A) (h3 : StpsAt w a3 n3 B) :
    Calls Yba.prog 3 #[.slice a1 n1 c1, .slice a2 n2 c2, .slice a3 n3 c3, .bool true] w fun e w' => e = .returned (.bool true) ∧ Below w.heap.size w w' := by
  have H : Hid (StpsAt w a1 n1 C ∧ StpsAt w a2 n2 A ∧ StpsAt w a3 n3 B) := ⟨h1, h2, h3⟩
  have hq : decide ((1048576 : Int) < (n1 : Int) + (n2 : Int) + (n3 : Int)) = false := by simp; omega
  clear h1 h2 h3
  go_enter Yba.func3, Yba.ntmps3
  go_wp2_with fail
  refine (extend_nil C n1 c1 a1 _ (by omega) H.out.1).mono ?_
  rintro e w1 ⟨γ0, rfl, hb1, hp1, hn1⟩
  have H1 : Hid (Below w.heap.size w w1 ∧ PathIs w1 γ0 C n1) := ⟨hb1, hp1⟩
  clear hb1 hp1 hn1
  go_wp2_with fail
  refine (extend_any γ0 C A n1 n2 c2 a2 w1 (by omega) H1.out.2 (H.out.2.1.below H1.out.1)).mono ?_
  rintro e w2 ⟨γ1, rfl, hE⟩
  have H2 : Hid (Ext w1 w2 γ0 C A n1 n2 γ1) := hE
  clear hE
  go_wp2_with fail
  refine (extend_any γ0 C B n1 n3 c3 a3 w2 (by omega) (H1.out.2.below H2.out.below) ((H.out.2.2.below H1.out.1).below H2.out.below)).mono ?_
  rintro e w3 ⟨γ2, rfl, hE⟩
  have H3 : Hid (Ext w2 w3 γ0 C B n1 n3 γ2) := hE
  clear hE
  have HB : Hid (Below w.heap.size w w3) := (H1.out.1.trans (H2.out.below.mono H1.out.1.size)).trans (H3.out.below.mono (Nat.le_trans H1.out.1.size H2.out.below.size))
  have HT : Hid (Two w3 γ1 γ2 (thenS C A n1) (thenS C B n1) (n1 + n2) (n1 + n3) n1) := two_shared H2.out H3.out
  by_cases hle : n3 < n2
  · have hq2 : (n3 : Int) < (n2 : Int) := by omega
    go_wp2
    go_loopw [16] (fun v wr => ∃ k : Nat, k ≤ n1 + n3 ∧ v = .int .i64 k ∧ (∀ i, i < k → eqB (thenS C A n1 i) (thenS C B n1 i) = true) ∧ Below w3.heap.size w3 wr) (fun v _ => n1 + n3 - (intOf v).toNat)
    case atStart => exact ⟨0, Nat.zero_le _, rfl, fun i hi => by omega, Below.refl _ _⟩
    case round =>
      obtain ⟨k, hk, rfl, hs, hbr⟩ := hrel
      have HK : Hid ((∀ i, i < k → eqB (thenS C A n1 i) (thenS C B n1 i) = true) ∧ Below w3.heap.size w3 wr) := ⟨hs, hbr⟩
      have HBr : Hid (Below w.heap.size w wr) := HB.out.trans (hbr.mono HB.out.size)
      clear hs hbr
      by_cases hlt : k < n1 + n3
      · have hq3 : (k : Int) < (n1 : Int) + (n3 : Int) := by omega
        cases hb : eqB (thenS C A n1 k) (thenS C B n1 k)
        · have HE : Hid (eqB (thenS C A n1 k) (thenS C B n1 k) = false) := hb
          have her := eql_run
          go_wp2_with fail
          refine (at_any C A a1 a2 n1 c1 n2 c2 k _ (by omega) (by omega) (H.out.1.below HBr.out) (H.out.2.1.below HBr.out)).mono ?_
          rintro e w4 ⟨rfl, hb4⟩
          have HB4 : Hid (Below w.heap.size w w4) := HBr.out.trans (hb4.mono HBr.out.size)
          have HB5 : Hid (Below wr.heap.size wr w4) := hb4
          clear hb4
          go_wp2_with fail
          refine (at_any C B a1 a3 n1 c1 n3 c3 k _ (by omega) (by omega) (H.out.1.below HB4.out) (H.out.2.2.below HB4.out)).mono ?_
          rintro e w5 ⟨rfl, hb5⟩
          have HB6 : Hid (Below w.heap.size w w5 ∧ Below w3.heap.size w3 w5) := ⟨HB4.out.trans (hb5.mono HB4.out.size), (HK.out.2.trans (HB5.out.mono HK.out.2.size)).trans (hb5.mono (Nat.le_trans HK.out.2.size HB5.out.size))⟩
          clear hb5
          go_wp2_with fail
          refine (Two.shared (HT.out.below HB6.out.2) (by omega) (by omega) k (by omega) HK.out.1 (.inr HE.out)).mono ?_
          rintro e w6 ⟨rfl, j, rfl⟩
          go_wp2_with fail
          refine (len_any γ1 (thenS C A n1) (n1 + n2) (n1 + n2) (w5.drewN j) (HT.out.below (below_drewN HB6.out.2 j)).p (Nat.le_refl _)).mono ?_
          rintro e w7 ⟨rfl, rfl⟩
          go_wp2_with fail
          refine (len_any γ2 (thenS C B n1) (n1 + n3) (n1 + n3) (w5.drewN j) (HT.out.below (below_drewN HB6.out.2 j)).q (Nat.le_refl _)).mono ?_
          rintro e w8 ⟨rfl, rfl⟩
          go_wp2
          go_ret
          exact ⟨rfl, below_drewN HB6.out.1 _⟩
        · have HE : Hid (eqB (thenS C A n1 k) (thenS C B n1 k) = true) := hb
          have her := eql_run
          go_wp2_with fail
          refine (at_any C A a1 a2 n1 c1 n2 c2 k _ (by omega) (by omega) (H.out.1.below HBr.out) (H.out.2.1.below HBr.out)).mono ?_
          rintro e w4 ⟨rfl, hb4⟩
          have HB4 : Hid (Below w.heap.size w w4) := HBr.out.trans (hb4.mono HBr.out.size)
          have HB5 : Hid (Below wr.heap.size wr w4) := hb4
          clear hb4
          go_wp2_with fail
          refine (at_any C B a1 a3 n1 c1 n3 c3 k _ (by omega) (by omega) (H.out.1.below HB4.out) (H.out.2.2.below HB4.out)).mono ?_
          rintro e w5 ⟨rfl, hb5⟩
          have HB6 : Hid (Below w.heap.size w w5 ∧ Below w3.heap.size w3 w5) := ⟨HB4.out.trans (hb5.mono HB4.out.size), (HK.out.2.trans (HB5.out.mono HK.out.2.size)).trans (hb5.mono (Nat.le_trans HK.out.2.size HB5.out.size))⟩
          clear hb5
          go_wp2
          go_roundw
          case rel => exact ⟨k + 1, by omega, by go_num, fun i hi => by
            by_cases hik : i = k
            · rw [hik]; exact HE.out
            · exact HK.out.1 i (by omega), HB6.out.2⟩
          case measure => simp [intOf]; omega
      · have hq3 : decide ((k : Int) < (n1 : Int) + (n3 : Int)) = false := by simp; omega
        have HW : Hid (Below w.heap.size w wr ∧ Below w3.heap.size w3 wr) := ⟨HBr.out, HK.out.2⟩
        go_wp2_with fail
        refine (Two.shared (HT.out.below HW.out.2) (by omega) (by omega) k (by omega) HK.out.1 (.inl (by omega))).mono ?_
        rintro e w6 ⟨rfl, j, rfl⟩
        go_wp2_with fail
        refine (len_any γ1 (thenS C A n1) (n1 + n2) (n1 + n2) (wr.drewN j) (HT.out.below (below_drewN HW.out.2 j)).p (Nat.le_refl _)).mono ?_
        rintro e w7 ⟨rfl, rfl⟩
        go_wp2_with fail
        refine (len_any γ2 (thenS C B n1) (n1 + n3) (n1 + n3) (wr.drewN j) (HT.out.below (below_drewN HW.out.2 j)).q (Nat.le_refl _)).mono ?_
        rintro e w8 ⟨rfl, rfl⟩
        go_wp2
        go_ret
        exact ⟨rfl, below_drewN HW.out.1 _⟩
  · have hq2 : decide ((n3 : Int) < (n2 : Int)) = false := by simp; omega
    go_wp2
    go_loopw [16] (fun v wr => ∃ k : Nat, k ≤ n1 + n2 ∧ v = .int .i64 k ∧ (∀ i, i < k → eqB (thenS C A n1 i) (thenS C B n1 i) = true) ∧ Below w3.heap.size w3 wr) (fun v _ => n1 + n2 - (intOf v).toNat)
    case atStart => exact ⟨0, Nat.zero_le _, rfl, fun i hi => by omega, Below.refl _ _⟩
    case round =>
      obtain ⟨k, hk, rfl, hs, hbr⟩ := hrel
      have HK : Hid ((∀ i, i < k → eqB (thenS C A n1 i) (thenS C B n1 i) = true) ∧ Below w3.heap.size w3 wr) := ⟨hs, hbr⟩
      have HBr : Hid (Below w.heap.size w wr) := HB.out.trans (hbr.mono HB.out.size)
      clear hs hbr
      by_cases hlt : k < n1 + n2
      · have hq3 : (k : Int) < (n1 : Int) + (n2 : Int) := by omega
        cases hb : eqB (thenS C A n1 k) (thenS C B n1 k)
        · have HE : Hid (eqB (thenS C A n1 k) (thenS C B n1 k) = false) := hb
          have her := eql_run
          go_wp2_with fail
          refine (at_any C A a1 a2 n1 c1 n2 c2 k _ (by omega) (by omega) (H.out.1.below HBr.out) (H.out.2.1.below HBr.out)).mono ?_
          rintro e w4 ⟨rfl, hb4⟩
          have HB4 : Hid (Below w.heap.size w w4) := HBr.out.trans (hb4.mono HBr.out.size)
          have HB5 : Hid (Below wr.heap.size wr w4) := hb4
          clear hb4
          go_wp2_with fail
          refine (at_any C B a1 a3 n1 c1 n3 c3 k _ (by omega) (by omega) (H.out.1.below HB4.out) (H.out.2.2.below HB4.out)).mono ?_
          rintro e w5 ⟨rfl, hb5⟩
          have HB6 : Hid (Below w.heap.size w w5 ∧ Below w3.heap.size w3 w5) := ⟨HB4.out.trans (hb5.mono HB4.out.size), (HK.out.2.trans (HB5.out.mono HK.out.2.size)).trans (hb5.mono (Nat.le_trans HK.out.2.size HB5.out.size))⟩
          clear hb5
          go_wp2_with fail
          refine (Two.shared (HT.out.below HB6.out.2) (by omega) (by omega) k (by omega) HK.out.1 (.inr HE.out)).mono ?_
          rintro e w6 ⟨rfl, j, rfl⟩
          go_wp2_with fail
          refine (len_any γ1 (thenS C A n1) (n1 + n2) (n1 + n2) (w5.drewN j) (HT.out.below (below_drewN HB6.out.2 j)).p (Nat.le_refl _)).mono ?_
          rintro e w7 ⟨rfl, rfl⟩
          go_wp2_with fail
          refine (len_any γ2 (thenS C B n1) (n1 + n3) (n1 + n3) (w5.drewN j) (HT.out.below (below_drewN HB6.out.2 j)).q (Nat.le_refl _)).mono ?_
          rintro e w8 ⟨rfl, rfl⟩
          go_wp2
          go_ret
          exact ⟨rfl, below_drewN HB6.out.1 _⟩
        · have HE : Hid (eqB (thenS C A n1 k) (thenS C B n1 k) = true) := hb
          have her := eql_run
          go_wp2_with fail
          refine (at_any C A a1 a2 n1 c1 n2 c2 k _ (by omega) (by omega) (H.out.1.below HBr.out) (H.out.2.1.below HBr.out)).mono ?_
          rintro e w4 ⟨rfl, hb4⟩
          have HB4 : Hid (Below w.heap.size w w4) := HBr.out.trans (hb4.mono HBr.out.size)
          have HB5 : Hid (Below wr.heap.size wr w4) := hb4
          clear hb4
          go_wp2_with fail
          refine (at_any C B a1 a3 n1 c1 n3 c3 k _ (by omega) (by omega) (H.out.1.below HB4.out) (H.out.2.2.below HB4.out)).mono ?_
          rintro e w5 ⟨rfl, hb5⟩
          have HB6 : Hid (Below w.heap.size w w5 ∧ Below w3.heap.size w3 w5) := ⟨HB4.out.trans (hb5.mono HB4.out.size), (HK.out.2.trans (HB5.out.mono HK.out.2.size)).trans (hb5.mono (Nat.le_trans HK.out.2.size HB5.out.size))⟩
          clear hb5
          go_wp2
          go_roundw
          case rel => exact ⟨k + 1, by omega, by go_num, fun i hi => by
            by_cases hik : i = k
            · rw [hik]; exact HE.out
            · exact HK.out.1 i (by omega), HB6.out.2⟩
          case measure => simp [intOf]; omega
      · have hq3 : decide ((k : Int) < (n1 : Int) + (n2 : Int)) = false := by simp; omega
        have HW : Hid (Below w.heap.size w wr ∧ Below w3.heap.size w3 wr) := ⟨HBr.out, HK.out.2⟩
        go_wp2_with fail
        refine (Two.shared (HT.out.below HW.out.2) (by omega) (by omega) k (by omega) HK.out.1 (.inl (by omega))).mono ?_
        rintro e w6 ⟨rfl, j, rfl⟩
        go_wp2_with fail
        refine (len_any γ1 (thenS C A n1) (n1 + n2) (n1 + n2) (wr.drewN j) (HT.out.below (below_drewN HW.out.2 j)).p (Nat.le_refl _)).mono ?_
        rintro e w7 ⟨rfl, rfl⟩
        go_wp2_with fail
        refine (len_any γ2 (thenS C B n1) (n1 + n3) (n1 + n3) (wr.drewN j) (HT.out.below (below_drewN HW.out.2 j)).q (Nat.le_refl _)).mono ?_
        rintro e w8 ⟨rfl, rfl⟩
        go_wp2
        go_ret
        exact ⟨rfl, below_drewN HW.out.1 _⟩

set_option maxRecDepth 100000 in
set_option maxHeartbeats 1600000 in
theorem law_apart (C A B : Nat → Stp) (a1 a2 a3 : Option Addr) (n1 c1 n2 c2 n3 c3 : Nat) (w : World) (hlim : n1 + n2 + n3 ≤ 1048576) (h1 : StpsAt w a1 n1 C) (h2 : StpsAt w a2 n2 A) (h3 : StpsAt w a3 n3 B) :
    Calls Yba.prog 3 #[.slice a1 n1 c1, .slice a2 n2 c2, .slice a3 n3 c3, .bool false] w fun e w' => e = .returned (.bool true) ∧ Below w.heap.size w w' := by
  have H : Hid (StpsAt w a1 n1 C ∧ StpsAt w a2 n2 A ∧ StpsAt w a3 n3 B) := ⟨h1, h2, h3⟩
  have hq : decide ((1048576 : Int) < (n1 : Int) + (n2 : Int) + (n3 : Int)) = false := by simp; omega
  clear h1 h2 h3
  go_enter Yba.func3, Yba.ntmps3
  go_wp2_with fail
  refine (extend_nil C n1 c1 a1 _ (by omega) H.out.1).mono ?_
  rintro e w0 ⟨γ0, rfl, hb1, hp1, hn1⟩
  have H0 : Hid (Below w.heap.size w w0 ∧ PathIs w0 γ0 C n1) := ⟨hb1, hp1⟩
  clear hb1 hp1 hn1
  go_wp2_with fail
  refine (extend_nil C n1 c1 a1 _ (by omega) (H.out.1.below H0.out.1)).mono ?_
  rintro e w1 ⟨γ3, rfl, hb1, hp1, hn1⟩
  have H1 : Hid (Below w.heap.size w w1 ∧ PathIs w1 γ0 C n1 ∧ PathIs w1 γ3 C n1 ∧ ∀ i, i < n1 → w0.heap.size ≤ γ3 i) := ⟨H0.out.1.trans (hb1.mono H0.out.1.size), H0.out.2.below hb1, hp1, hn1⟩
  clear hb1 hp1 hn1
  go_wp2_with fail
  refine (extend_any γ0 C A n1 n2 c2 a2 w1 (by omega) H1.out.2.1 (H.out.2.1.below H1.out.1)).mono ?_
  rintro e w2 ⟨γ1, rfl, hE⟩
  have H2 : Hid (Ext w1 w2 γ0 C A n1 n2 γ1) := hE
  clear hE
  go_wp2_with fail
  refine (extend_any γ3 C B n1 n3 c3 a3 w2 (by omega) (H1.out.2.2.1.below H2.out.below) ((H.out.2.2.below H1.out.1).below H2.out.below)).mono ?_
  rintro e w3 ⟨γ2, rfl, hE⟩
  have H3 : Hid (Ext w2 w3 γ3 C B n1 n3 γ2) := hE
  clear hE
  have HB : Hid (Below w.heap.size w w3) := (H1.out.1.trans (H2.out.below.mono H1.out.1.size)).trans (H3.out.below.mono (Nat.le_trans H1.out.1.size H2.out.below.size))
  have HT : Hid (Two w3 γ1 γ2 (thenS C A n1) (thenS C B n1) (n1 + n2) (n1 + n3) 0) := two_apart H0.out.2 H1.out.2.2.2 H2.out H3.out
  by_cases hle : n3 < n2
  · have hq2 : (n3 : Int) < (n2 : Int) := by omega
    go_wp2
    go_loopw [16] (fun v wr => ∃ k : Nat, k ≤ n1 + n3 ∧ v = .int .i64 k ∧ (∀ i, i < k → eqB (thenS C A n1 i) (thenS C B n1 i) = true) ∧ Below w3.heap.size w3 wr) (fun v _ => n1 + n3 - (intOf v).toNat)
    case atStart => exact ⟨0, Nat.zero_le _, rfl, fun i hi => by omega, Below.refl _ _⟩
    case round =>
      obtain ⟨k, hk, rfl, hs, hbr⟩ := hrel
      have HK : Hid ((∀ i, i < k → eqB (thenS C A n1 i) (thenS C B n1 i) = true) ∧ Below w3.heap.size w3 wr) := ⟨hs, hbr⟩
      have HBr : Hid (Below w.heap.size w wr) := HB.out.trans (hbr.mono HB.out.size)
      clear hs hbr
      by_cases hlt : k < n1 + n3
      · have hq3 : (k : Int) < (n1 : Int) + (n3 : Int) := by omega
        cases hb : eqB (thenS C A n1 k) (thenS C B n1 k)
        · have HE : Hid (eqB (thenS C A n1 k) (thenS C B n1 k) = false) := hb
          have her := eql_run
          go_wp2_with fail
          refine (at_any C A a1 a2 n1 c1 n2 c2 k _ (by omega) (by omega) (H.out.1.below HBr.out) (H.out.2.1.below HBr.out)).mono ?_
          rintro e w4 ⟨rfl, hb4⟩
          have HB4 : Hid (Below w.heap.size w w4) := HBr.out.trans (hb4.mono HBr.out.size)
          have HB5 : Hid (Below wr.heap.size wr w4) := hb4
          clear hb4
          go_wp2_with fail
          refine (at_any C B a1 a3 n1 c1 n3 c3 k _ (by omega) (by omega) (H.out.1.below HB4.out) (H.out.2.2.below HB4.out)).mono ?_
          rintro e w5 ⟨rfl, hb5⟩
          have HB6 : Hid (Below w.heap.size w w5 ∧ Below w3.heap.size w3 w5) := ⟨HB4.out.trans (hb5.mono HB4.out.size), (HK.out.2.trans (HB5.out.mono HK.out.2.size)).trans (hb5.mono (Nat.le_trans HK.out.2.size HB5.out.size))⟩
          clear hb5
          go_wp2_with fail
          refine (Two.shared (HT.out.below HB6.out.2) (by omega) (by omega) k (by omega) HK.out.1 (.inr HE.out)).mono ?_
          rintro e w6 ⟨rfl, j, rfl⟩
          go_wp2_with fail
          refine (len_any γ1 (thenS C A n1) (n1 + n2) (n1 + n2) (w5.drewN j) (HT.out.below (below_drewN HB6.out.2 j)).p (Nat.le_refl _)).mono ?_
          rintro e w7 ⟨rfl, rfl⟩
          go_wp2_with fail
          refine (len_any γ2 (thenS C B n1) (n1 + n3) (n1 + n3) (w5.drewN j) (HT.out.below (below_drewN HB6.out.2 j)).q (Nat.le_refl _)).mono ?_
          rintro e w8 ⟨rfl, rfl⟩
          go_wp2
          go_ret
          exact ⟨rfl, below_drewN HB6.out.1 _⟩
        · have HE : Hid (eqB (thenS C A n1 k) (thenS C B n1 k) = true) := hb
          have her := eql_run
          go_wp2_with fail
          refine (at_any C A a1 a2 n1 c1 n2 c2 k _ (by omega) (by omega) (H.out.1.below HBr.out) (H.out.2.1.below HBr.out)).mono ?_
          rintro e w4 ⟨rfl, hb4⟩
          have HB4 : Hid (Below w.heap.size w w4) := HBr.out.trans (hb4.mono HBr.out.size)
          have HB5 : Hid (Below wr.heap.size wr w4) := hb4
          clear hb4
          go_wp2_with fail
          refine (at_any C B a1 a3 n1 c1 n3 c3 k _ (by omega) (by omega) (H.out.1.below HB4.out) (H.out.2.2.below HB4.out)).mono ?_
          rintro e w5 ⟨rfl, hb5⟩
          have HB6 : Hid (Below w.heap.size w w5 ∧ Below w3.heap.size w3 w5) := ⟨HB4.out.trans (hb5.mono HB4.out.size), (HK.out.2.trans (HB5.out.mono HK.out.2.size)).trans (hb5.mono (Nat.le_trans HK.out.2.size HB5.out.size))⟩
          clear hb5
          go_wp2
          go_roundw
          case rel => exact ⟨k + 1, by omega, by go_num, fun i hi => by
            by_cases hik : i = k
            · rw [hik]; exact HE.out
            · exact HK.out.1 i (by omega), HB6.out.2⟩
          case measure => simp [intOf]; omega
      · have hq3 : decide ((k : Int) < (n1 : Int) + (n3 : Int)) = false := by simp; omega
        have HW : Hid (Below w.heap.size w wr ∧ Below w3.heap.size w3 wr) := ⟨HBr.out, HK.out.2⟩
        go_wp2_with fail
        refine (Two.shared (HT.out.below HW.out.2) (by omega) (by omega) k (by omega) HK.out.1 (.inl (by omega))).mono ?_
        rintro e w6 ⟨rfl, j, rfl⟩
        go_wp2_with fail
        refine (len_any γ1 (thenS C A n1) (n1 + n2) (n1 + n2) (wr.drewN j) (HT.out.below (below_drewN HW.out.2 j)).p (Nat.le_refl _)).mono ?_
        rintro e w7 ⟨rfl, rfl⟩
        go_wp2_with fail
        refine (len_any γ2 (thenS C B n1) (n1 + n3) (n1 + n3) (wr.drewN j) (HT.out.below (below_drewN HW.out.2 j)).q (Nat.le_refl _)).mono ?_
        rintro e w8 ⟨rfl, rfl⟩
        go_wp2
        go_ret
        exact ⟨rfl, below_drewN HW.out.1 _⟩
  · have hq2 : decide ((n3 : Int) < (n2 : Int)) = false := by simp; omega
    go_wp2
    go_loopw [16] (fun v wr => ∃ k : Nat, k ≤ n1 + n2 ∧ v = .int .i64 k ∧ (∀ i, i < k → eqB (thenS C A n1 i) (thenS C B n1 i) = true) ∧ Below w3.heap.size w3 wr) (fun v _ => n1 + n2 - (intOf v).toNat)
    case atStart => exact ⟨0, Nat.zero_le _, rfl, fun i hi => by omega, Below.refl _ _⟩
    case round =>
      obtain ⟨k, hk, rfl, hs, hbr⟩ := hrel
      have HK : Hid ((∀ i, i < k → eqB (thenS C A n1 i) (thenS C B n1 i) = true) ∧ Below w3.heap.size w3 wr) := ⟨hs, hbr⟩
      have HBr : Hid (Below w.heap.size w wr) := HB.out.trans (hbr.mono HB.out.size)
      clear hs hbr
      by_cases hlt : k < n1 + n2
      · have hq3 : (k : Int) < (n1 : Int) + (n2 : Int) := by omega
        cases hb : eqB (thenS C A n1 k) (thenS C B n1 k)
        · have HE : Hid (eqB (thenS C A n1 k) (thenS C B n1 k) = false) := hb
          have her := eql_run
          go_wp2_with fail
          refine (at_any C A a1 a2 n1 c1 n2 c2 k _ (by omega) (by omega) (H.out.1.below HBr.out) (H.out.2.1.below HBr.out)).mono ?_
          rintro e w4 ⟨rfl, hb4⟩
          have HB4 : Hid (Below w.heap.size w w4) := HBr.out.trans (hb4.mono HBr.out.size)
          have HB5 : Hid (Below wr.heap.size wr w4) := hb4
          clear hb4
          go_wp2_with fail
          refine (at_any C B a1 a3 n1 c1 n3 c3 k _ (by omega) (by omega) (H.out.1.below HB4.out) (H.out.2.2.below HB4.out)).mono ?_
          rintro e w5 ⟨rfl, hb5⟩
          have HB6 : Hid (Below w.heap.size w w5 ∧ Below w3.heap.size w3 w5) := ⟨HB4.out.trans (hb5.mono HB4.out.size), (HK.out.2.trans (HB5.out.mono HK.out.2.size)).trans (hb5.mono (Nat.le_trans HK.out.2.size HB5.out.size))⟩
          clear hb5
          go_wp2_with fail
          refine (Two.shared (HT.out.below HB6.out.2) (by omega) (by omega) k (by omega) HK.out.1 (.inr HE.out)).mono ?_
          rintro e w6 ⟨rfl, j, rfl⟩
          go_wp2_with fail
          refine (len_any γ1 (thenS C A n1) (n1 + n2) (n1 + n2) (w5.drewN j) (HT.out.below (below_drewN HB6.out.2 j)).p (Nat.le_refl _)).mono ?_
          rintro e w7 ⟨rfl, rfl⟩
          go_wp2_with fail
          refine (len_any γ2 (thenS C B n1) (n1 + n3) (n1 + n3) (w5.drewN j) (HT.out.below (below_drewN HB6.out.2 j)).q (Nat.le_refl _)).mono ?_
          rintro e w8 ⟨rfl, rfl⟩
          go_wp2
          go_ret
          exact ⟨rfl, below_drewN HB6.out.1 _⟩
        · have HE : Hid (eqB (thenS C A n1 k) (thenS C B n1 k) = true) := hb
          have her := eql_run
          go_wp2_with fail
          refine (at_any C A a1 a2 n1 c1 n2 c2 k _ (by omega) (by omega) (H.out.1.below HBr.out) (H.out.2.1.below HBr.out)).mono ?_
          rintro e w4 ⟨rfl, hb4⟩
          have HB4 : Hid (Below w.heap.size w w4) := HBr.out.trans (hb4.mono HBr.out.size)
          have HB5 : Hid (Below wr.heap.size wr w4) := hb4
          clear hb4
          go_wp2_with fail
          refine (at_any C B a1 a3 n1 c1 n3 c3 k _ (by omega) (by omega) (H.out.1.below HB4.out) (H.out.2.2.below HB4.out)).mono ?_
          rintro e w5 ⟨rfl, hb5⟩
          have HB6 : Hid (Below w.heap.size w w5 ∧ Below w3.heap.size w3 w5) := ⟨HB4.out.trans (hb5.mono HB4.out.size), (HK.out.2.trans (HB5.out.mono HK.out.2.size)).trans (hb5.mono (Nat.le_trans HK.out.2.size HB5.out.size))⟩
          clear hb5
          go_wp2
          go_roundw
          case rel => exact ⟨k + 1, by omega, by go_num, fun i hi => by
            by_cases hik : i = k
            · rw [hik]; exact HE.out
            · exact HK.out.1 i (by omega), HB6.out.2⟩
          case measure => simp [intOf]; omega
      · have hq3 : decide ((k : Int) < (n1 : Int) + (n2 : Int)) = false := by simp; omega
        have HW : Hid (Below w.heap.size w wr ∧ Below w3.heap.size w3 wr) := ⟨HBr.out, HK.out.2⟩
        go_wp2_with fail
        refine (Two.shared (HT.out.below HW.out.2) (by omega) (by omega) k (by omega) HK.out.1 (.inl (by omega))).mono ?_
        rintro e w6 ⟨rfl, j, rfl⟩
        go_wp2_with fail
        refine (len_any γ1 (thenS C A n1) (n1 + n2) (n1 + n2) (wr.drewN j) (HT.out.below (below_drewN HW.out.2 j)).p (Nat.le_refl _)).mono ?_
        rintro e w7 ⟨rfl, rfl⟩
        go_wp2_with fail
        refine (len_any γ2 (thenS C B n1) (n1 + n3) (n1 + n3) (wr.drewN j) (HT.out.below (below_drewN HW.out.2 j)).q (Nat.le_refl _)).mono ?_
        rintro e w8 ⟨rfl, rfl⟩
        go_wp2
        go_ret
        exact ⟨rfl, below_drewN HW.out.1 _⟩

/-- The law's call, whatever the three slices and the bool. -/
theorem law_any (C A B : Nat → Stp) (a1 a2 a3 : Option Addr) (n1 c1 n2 c2 n3 c3 : Nat) (sb : Bool) (w : World) (hr : n1 + n2 + n3 < 2 ^ 60) (h1 : StpsAt w a1 n1 C) (h2 : StpsAt w a2 n2 A) (h3 : StpsAt w a3 n3 B) :
    Calls Yba.prog 3 #[.slice a1 n1 c1, .slice a2 n2 c2, .slice a3 n3 c3, .bool sb] w fun e w' => e = .returned (.bool true) ∧ Below w.heap.size w w' := by
  by_cases hbig : 1048576 < n1 + n2 + n3
  · exact law_big a1 a2 a3 n1 c1 n2 c2 n3 c3 sb w hr hbig
  · cases sb
    · exact law_apart C A B a1 a2 a3 n1 c1 n2 c2 n3 c3 w (by omega) h1 h2 h3
    · exact law_shared C A B a1 a2 a3 n1 c1 n2 c2 n3 c3 w (by omega) h1 h2 h3
end Go.Proofs.Ybulkfrus.Walk
