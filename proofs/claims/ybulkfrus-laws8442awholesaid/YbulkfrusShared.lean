import Derived.Test.YbulkfrusWalk
import Derived.Deep.LoopGhost
namespace Go.Proofs.Ybulkfrus.Walk
open Go.RowKit Go.Proofs.Ybulkfrus.Base
set_option linter.unusedVariables false

set_option maxRecDepth 100000 in
set_option maxHeartbeats 400000 in
/-- prefix: the node of depth min L n. -/
theorem prefix_any (β : Nat → Nat) (S : Nat → Stp) (L n : Nat) (w : World) (hL : L ≤ 2097152) (h : PathIs w β S L) :
    Calls Yba.prog 9 #[ptrAt β L, .int .i64 n] w fun e w' => e = .returned (ptrAt β (min L n)) ∧ w' = w := by
  obtain ⟨p0, hp0⟩ : ∃ p0, p0 = ptrAt β L := ⟨_, rfl⟩
  have HP : Hid (p0 = ptrAt β L) := hp0
  have HH : Hid (PathIs w β S L) := h
  rw [← hp0]
  clear hp0 h
  go_enter Yba.func9, Yba.ntmps9
  go_wp2_with fail
  go_loopg [0] L (fun k p wr => p = ptrAt β k ∧ min L n ≤ k ∧ k ≤ L ∧ wr = w)
  case atStart => exact ⟨HP.out, Nat.min_le_left _ _, Nat.le_refl _, rfl⟩
  case round =>
    obtain ⟨hp, hk1, hk2, rfl⟩ := hrel
    subst hp
    by_cases hgt : n < gk
    · obtain ⟨d, rfl⟩ : ∃ d, gk = d + 1 := ⟨gk - 1, by omega⟩
      have c0 : wr.cell? ⟨β d, 0, none⟩ = some (ptrAt β d) := cell_of_row wr _ _ _ _ _ (HH.out d (by omega))
      have hq : (n : Int) < (d : Int) + 1 := by omega
      go_wp2_with fail
      refine (len_any β S L (d + 1) wr HH.out hk2).mono ?_
      rintro e w' ⟨rfl, rfl⟩
      rw [show ptrAt β (d + 1) = .pointer (some ⟨β d, 0, none⟩) from rfl]
      go_wp2
      go_roundg d
      case measure => omega
      case rel => exact ⟨rfl, by omega, by omega, rfl⟩
    · have hq : decide ((n : Int) < (gk : Int)) = false := by simp; omega
      have HM : Hid (ptrAt β gk = ptrAt β (min L n)) := by rw [(by omega : min L n = gk)]; rfl
      go_wp2_with fail
      refine (len_any β S L gk wr HH.out hk2).mono ?_
      rintro e w' ⟨rfl, rfl⟩
      go_wp2
      go_ret
      exact ⟨ret_val HM.out, rfl⟩

theorem prefix_at (β : Nat → Nat) (S : Nat → Stp) (L n m : Nat) (p : Value) (v : Int) (w : World) (hL : L ≤ 2097152) (h : PathIs w β S L) (hp : p = ptrAt β L) (hv : v = (n : Int)) (hm : min L n = m) :
    Calls Yba.prog 9 #[p, .int .i64 v] w fun e w' => e = .returned (ptrAt β m) ∧ w' = w := by
  subst hp hv hm; exact prefix_any β S L n w hL h

/-! ### Pointers to nodes held against one another -/
theorem size35 : (Yba.prog.info? 35).map (·.size) = some 6 := by kernel_rfl

theorem neq_other {w : World} {a b : Nat} {ca cb : Array Value} (ha : w.heap[a]? = some (.cells ca 35 (0, 0))) (hb : w.heap[b]? = some (.cells cb 35 (0, 0))) (hne : a ≠ b) :
    (binOp .neq 23 (.pointer (some ⟨a, 0, none⟩)) (.pointer (some ⟨b, 0, none⟩))).run Yba.prog w = .ok (.bool true) w := by
  obtain ⟨i, hi, hs⟩ := Option.map_eq_some_iff.1 size35
  have h : ∀ d : Nat, (Op.equalIn (d + 1) 23 (.pointer (some ⟨a, 0, none⟩)) (.pointer (some ⟨b, 0, none⟩))).run Yba.prog w = .ok false w := fun d => by
    simp [Op.equalIn, run_underlying Yba.underlying23, sizeOf, typeInfo, hi, hs, run_sameAddr_other (P := Yba.prog) w (a := ⟨a, 0, none⟩) (b := ⟨b, 0, none⟩) (fun e => hne (by injection e)) ha hb]
  simp only [binOp]
  simp [Op.equal, Op.maxDepth, h 9999]

theorem neq_same (a : Addr) (w : World) : (binOp .neq 23 (.pointer (some a)) (.pointer (some a))).run Yba.prog w = .ok (.bool false) w := by
  obtain ⟨i, hi, hs⟩ := Option.map_eq_some_iff.1 size35
  exact Lib.run_neq_ptr_same w a Yba.underlying23 hi

theorem node_cells {w : World} {β : Nat → Nat} {S : Nat → Stp} {L e : Nat} (h : PathIs w β S L) (he : e < L) :
    w.cell? ⟨β e, 0, none⟩ = some (ptrAt β e) ∧ w.cell? ⟨β e, 1, none⟩ = some (.bool (S e).il) ∧ w.cell? ⟨β e, 2, none⟩ = some (.string (S e).key) ∧ w.cell? ⟨β e, 3, none⟩ = some (.int .u64 (S e).ctr) ∧
      w.cell? ⟨β e, 4, none⟩ = some (.string (S e).rep) ∧ w.cell? ⟨β e, 5, none⟩ = some (.int .i64 ((e : Int) + 1)) :=
  ⟨cell_of_row w _ _ _ _ _ (h e he), cell_of_row w _ _ _ _ _ (h e he), cell_of_row w _ _ _ _ _ (h e he), cell_of_row w _ _ _ _ _ (h e he), cell_of_row w _ _ _ _ _ (h e he), cell_of_row w _ _ _ _ _ (h e he)⟩

/-- Of the places from d on and below m, t is the first at which the steps differ; or t is m. -/
structure Seen (S T : Nat → Stp) (m d t : Nat) : Prop where
  lo : d ≤ t
  hi : t ≤ m
  same : ∀ i, d ≤ i → i < t → eqB (S i) (T i) = true
  last : t = m ∨ eqB (S t) (T t) = false

theorem Seen.unique {S T : Nat → Stp} {m d t u : Nat} (h : Seen S T m d t) (k : Seen S T m d u) : t = u := by
  rcases Nat.lt_trichotomy t u with hlt | h | hlt
  · rcases h.last with e | e
    · have := k.hi; omega
    · have := k.same t h.lo hlt; rw [e] at this; cases this
  · exact h
  · rcases k.last with e | e
    · have := h.hi; omega
    · have := h.same u k.lo hlt; rw [e] at this; cases this

theorem Seen.down_same {S T : Nat → Stp} {m e t : Nat} (h : Seen S T m (e + 1) t) (hs : eqB (S e) (T e) = true) : Seen S T m e t :=
  ⟨by have := h.lo; omega, h.hi, fun i h1 h2 => by
    by_cases hi : i = e
    · subst hi; exact hs
    · exact h.same i (by omega) h2, h.last⟩
theorem Seen.down_diff {S T : Nat → Stp} {m e t : Nat} (h : Seen S T m (e + 1) t) (hs : eqB (S e) (T e) = false) : Seen S T m e e :=
  ⟨Nat.le_refl _, by have := h.lo; have := h.hi; omega, fun i h1 h2 => by omega, .inr hs⟩
theorem Seen.whole {S T : Nat → Stp} {m c t : Nat} (h : Seen S T m c t) (hs : ∀ i, i < c → eqB (S i) (T i) = true) : Seen S T m 0 t :=
  ⟨Nat.zero_le _, h.hi, fun i _ h2 => by
    by_cases hi : i < c
    · exact hs i hi
    · exact h.same i (by omega) h2, h.last⟩
theorem Seen.start (S T : Nat → Stp) (m : Nat) : Seen S T m m m := ⟨Nat.le_refl _, Nat.le_refl _, fun i h1 h2 => by omega, .inl rfl⟩

set_option maxRecDepth 100000 in
set_option maxHeartbeats 800000 in
theorem shared_some (β γ : Nat → Nat) (S T : Nat → Stp) (lp lq c : Nat) (w : World) (h1 : lp ≤ 2097152) (h2 : lq ≤ 2097152) (hp : PathIs w β S lp) (hq : PathIs w γ T lq) (p0 : 0 < lp) (q0 : 0 < lq)
    (hc : c ≤ min lp lq) (hsame : ∀ i, i < c → β i = γ i) (hdiff : ∀ i, c ≤ i → i < min lp lq → β i ≠ γ i) :
    Calls Yba.prog 6 #[ptrAt β lp, ptrAt γ lq] w fun e w' => ∃ t : Nat, e = .returned (.int .i64 t) ∧ Seen S T (min lp lq) c t ∧ ∃ k, w' = w.drewN k := by
  have hm : min lq lp = min lp lq := Nat.min_comm _ _
  obtain ⟨m, hm'⟩ : ∃ m, m = min lp lq := ⟨_, rfl⟩
  rw [← hm'] at hc hdiff hm ⊢
  have hmp : m ≤ lp := by omega
  have hmq : m ≤ lq := by omega
  have HM : Hid (min lp lq = m ∧ min lq lp = m) := ⟨hm'.symm, hm⟩
  have HP : Hid (PathIs w β S lp ∧ PathIs w γ T lq) := ⟨hp, hq⟩
  have HS : Hid ((∀ i, i < c → β i = γ i) ∧ ∀ i, c ≤ i → i < m → β i ≠ γ i) := ⟨hsame, hdiff⟩
  obtain ⟨a, rfl⟩ : ∃ a, lp = a + 1 := ⟨lp - 1, by omega⟩
  obtain ⟨b, rfl⟩ : ∃ b, lq = b + 1 := ⟨lq - 1, by omega⟩
  have hpa : ptrAt β (a + 1) = .pointer (some ⟨β a, 0, none⟩) := rfl
  have hqb : ptrAt γ (b + 1) = .pointer (some ⟨γ b, 0, none⟩) := rfl
  rw [hpa, hqb]
  clear hp hq hsame hdiff hm hm'
  go_enter Yba.func6, Yba.ntmps6
  go_wp2_with fail
  rw [← hqb]
  refine (len_any γ T (b + 1) (b + 1) w HP.out.2 (Nat.le_refl _)).mono ?_
  rintro e w1 ⟨rfl, rfl⟩
  go_wp2_with fail
  refine (prefix_at β S (a + 1) (b + 1) m _ _ w1 h1 HP.out.1 rfl (by omega) HM.out.1).mono ?_
  rintro e w2 ⟨rfl, rfl⟩
  go_wp2_with fail
  rw [← hpa]
  refine (len_any β S (a + 1) (a + 1) w2 HP.out.1 (Nat.le_refl _)).mono ?_
  rintro e w3 ⟨rfl, rfl⟩
  go_wp2_with fail
  refine (prefix_at γ T (b + 1) (a + 1) m _ _ w3 h2 HP.out.2 rfl (by omega) HM.out.2).mono ?_
  rintro e w4 ⟨rfl, rfl⟩
  go_wp2_with fail
  refine (len_any β S (a + 1) m w4 HP.out.1 hmp).mono ?_
  rintro e w5 ⟨rfl, rfl⟩
  go_wp2
  go_loopg [0, 1, 5] m (fun d p q n wr => p = ptrAt β d ∧ q = ptrAt γ d ∧ c ≤ d ∧ d ≤ m ∧ ∃ t : Nat, n = .int .i64 t ∧ Seen S T m d t ∧ ∃ k, wr = w5.drewN k)
  case atStart => exact ⟨rfl, rfl, hc, Nat.le_refl _, m, rfl, Seen.start S T m, 0, rfl⟩
  case round =>
    obtain ⟨rfl, rfl, hd1, hd2, t, rfl, hs, k, rfl⟩ := hrel
    have HT : Hid (Seen S T m gk t) := hs
    clear hs
    by_cases hgt : c < gk
    · obtain ⟨e, rfl⟩ : ∃ e, gk = e + 1 := ⟨gk - 1, by omega⟩
      have hne : ∀ k, (binOp .neq 23 (.pointer (some ⟨β e, 0, none⟩)) (.pointer (some ⟨γ e, 0, none⟩))).run Yba.prog (w5.drewN k) = .ok (.bool true) (w5.drewN k) := fun k =>
        neq_other (w := w5.drewN k) (HP.out.1 e (by omega)) (HP.out.2 e (by omega)) (HS.out.2 e (by omega) (by omega))
      have hnr := neq_run
      obtain ⟨a0, a1, a2, a3, a4, a5⟩ := node_cells HP.out.1 (e := e) (by omega)
      obtain ⟨b0, b1, b2, b3, b4, b5⟩ := node_cells HP.out.2 (e := e) (by omega)
      have he : e ≤ 2097152 := by omega
      rw [show ptrAt β (e + 1) = .pointer (some ⟨β e, 0, none⟩) from rfl, show ptrAt γ (e + 1) = .pointer (some ⟨γ e, 0, none⟩) from rfl]
      cases hb : eqB (S e) (T e)
      · have HQ : Hid (eqB (S e) (T e) = false) := hb
        go_wp2
        go_quiet (fail)
        go_wp2
        go_quiet (fail)
        go_wp2
        go_roundg e
        case measure => omega
        case rel => exact ⟨rfl, rfl, by omega, by omega, e, rfl, HT.out.down_diff HQ.out, _, by rw [World.drewN_drewN]⟩
      · have HQ : Hid (eqB (S e) (T e) = true) := hb
        go_wp2
        go_quiet (fail)
        go_wp2
        go_quiet (fail)
        go_wp2
        go_roundg e
        case measure => omega
        case rel => exact ⟨rfl, rfl, by omega, by omega, t, rfl, HT.out.down_same HQ.out, _, by rw [World.drewN_drewN, World.drewN_drewN]⟩
    · obtain rfl : gk = c := by omega
      rw [← ptrAt_congr HS.out.1]
      cases gk with
      | zero =>
        rw [show ptrAt β 0 = .pointer none from rfl]
        go_wp2
        go_ret
        exact ⟨t, rfl, HT.out, k, rfl⟩
      | succ i =>
        have hns := neq_same
        rw [show ptrAt β (i + 1) = .pointer (some ⟨β i, 0, none⟩) from rfl]
        go_wp2
        go_ret
        exact ⟨t, rfl, HT.out, k, rfl⟩

set_option maxRecDepth 100000 in
theorem shared_zero (p q : Value) (w : World) (h : p = .pointer none ∨ (q = .pointer none ∧ ∃ a, p = .pointer (some a))) : Calls Yba.prog 6 #[p, q] w fun e w' => e = .returned (.int .i64 0) ∧ w' = w := by
  rcases h with rfl | ⟨rfl, a, rfl⟩
  · go_enter Yba.func6, Yba.ntmps6
    go_wp2
    go_ret
    exact ⟨rfl, rfl⟩
  · go_enter Yba.func6, Yba.ntmps6
    go_wp2
    go_ret
    exact ⟨rfl, rfl⟩

/-- shared: the length of the longest run of equal leading steps. -/
theorem shared_any (β γ : Nat → Nat) (S T : Nat → Stp) (lp lq c : Nat) (w : World) (h1 : lp ≤ 2097152) (h2 : lq ≤ 2097152) (hp : PathIs w β S lp) (hq : PathIs w γ T lq)
    (hc : c ≤ min lp lq) (hsame : ∀ i, i < c → β i = γ i) (hdiff : ∀ i, c ≤ i → i < min lp lq → β i ≠ γ i) (hst : ∀ i, i < c → eqB (S i) (T i) = true) (W : Nat) (hW : Seen S T (min lp lq) 0 W) :
    Calls Yba.prog 6 #[ptrAt β lp, ptrAt γ lq] w fun e w' => e = .returned (.int .i64 W) ∧ ∃ k, w' = w.drewN k := by
  by_cases p0 : lp = 0
  · subst p0
    have := hW.hi
    obtain rfl : W = 0 := by omega
    refine (shared_zero _ _ w (.inl rfl)).mono ?_
    rintro e w' ⟨rfl, rfl⟩
    exact ⟨rfl, 0, rfl⟩
  by_cases q0 : lq = 0
  · subst q0
    have := hW.hi
    obtain rfl : W = 0 := by omega
    obtain ⟨a, rfl⟩ : ∃ a, lp = a + 1 := ⟨lp - 1, by omega⟩
    refine (shared_zero _ _ w (.inr ⟨rfl, _, rfl⟩)).mono ?_
    rintro e w' ⟨rfl, rfl⟩
    exact ⟨rfl, 0, rfl⟩
  refine (shared_some β γ S T lp lq c w h1 h2 hp hq (by omega) (by omega) hc hsame hdiff).mono ?_
  rintro e w' ⟨t, rfl, hs, hk⟩
  rw [(hs.whole hst).unique hW]
  exact ⟨rfl, hk⟩
end Go.Proofs.Ybulkfrus.Walk
