import Derived.Test.YbulkfreoAWalk
namespace Go.Proofs.Ybulkfreo.AWalk
open Go.RowKit
set_option linter.unusedVariables false

/-- The world at a call under a name, with what is known of it. -/
theorem calls_at {P : Program} {f : FuncId} {args : Array Value} {w : World} {R : Ending → World → Prop} (Q : World → Prop) (hQ : Q w) (h : ∀ W, Q W → Calls P f args W R) : Calls P f args w R := h w hQ

/-- The cells of the job that the law builds. -/
def job (name st : ByteArray) (mn mx : Int) (one : Bool) : Array Value :=
  #[.string name, .int .i64 0, .float .f64 0, .int .i64 mn, .int .i64 mx, .slice none 0 0, .string ⟨#[]⟩, .float .f64 0, .float .f64 0, .string ⟨#[]⟩, .int .i64 0, .pointer none, .string ⟨#[]⟩, .string ⟨#[]⟩, .bool one, .bool false, .bool false, .int .i64 0, .bool false, .string st, .int .i64 0, .string ⟨#[]⟩, .int .i64 0, .int .i64 0, .slice none 0 0, .slice none 0 0, .string ⟨#[]⟩, .string ⟨#[]⟩, .string ⟨#[]⟩, .string ⟨#[]⟩, .bool false, .int .i64 0, .int .i64 0, .int .i64 0, .float .f64 0, .float .f64 0, .float .f64 0, .float .f64 0, .slice none 0 0, .int .i64 0, .int .i64 0, .int .i64 0, .int .i64 0, .float .f64 0, .bool false, .int .i64 0, .int .i64 0, .int .i64 0, .float .f64 0, .float .f64 0, .int .i64 0, .int .i64 0, .float .f64 0, .float .f64 0, .float .f64 0, .bool false, .float .f64 0, .float .f64 0, .float .f64 0, .bool false, .map none, .string ⟨#[]⟩, .int .i64 0, .bool false, .int .i64 0, .int .i64 0, .pointer none, .pointer none, .pointer none, .int .i64 0, .int .i64 0, .float .f64 0, .pointer none, .pointer none, .slice none 0 0, .pointer none, .pointer none, .int .i64 0, .slice none 0 0, .int .i64 0, .slice none 0 0, .map none, .map none, .map none, .map none, .bool false, .string ⟨#[]⟩, .int .i64 0, .int .i64 0, .slice none 0 0, .slice none 0 0, .bool false, .slice none 0 0, .int .i64 0, .int .i64 0, .int .i64 0, .int .i64 0, .float .f64 0, .float .f64 0, .float .f64 0, .float .f64 0, .slice none 0 0, .bool false, .string ⟨#[]⟩, .int .i64 0, .bool false, .int .i64 0, .float .f64 0, .float .f64 0, .bool false, .bool false, .bool false, .int .i64 0, .float .f64 0, .float .f64 0, .pointer none, .int .i64 0, .bool false]

theorem build61 (name st : ByteArray) (mn mx : Int) (one : Bool) (w : World) :
    (Instr.build 61 #[(1, .string st), (0, .agg #[.string name, .int .i64 0, .float .f64 0, .int .i64 mn, .int .i64 mx, .slice none 0 0, .string ⟨#[]⟩, .float .f64 0, .float .f64 0, .string ⟨#[]⟩, .int .i64 0, .pointer none, .string ⟨#[]⟩, .string ⟨#[]⟩, .bool one, .bool false, .bool false, .int .i64 0, .bool false])]).run Yba.prog w = .ok (.agg (job name st mn mx one)) w := by kernel_rfl

/-- The law for the operation that builds the job: by the closed fact, not cell by cell. -/
theorem wpList_build61 {ops : Array Oper} {rest : List Oper} {o : Oper} {a : Act} {w : World} {Q : Exit → Act → World → Prop} (name st : ByteArray) (mn mx : Int) (one : Bool)
    (hg : o.guard = none) (hop : o.op = .build 61 #[(1, .tmp 26), (0, .tmp 31)]) (h1 : a.eval (.tmp 26) = .string st)
    (h2 : a.eval (.tmp 31) = .agg #[.string name, .int .i64 0, .float .f64 0, .int .i64 mn, .int .i64 mx, .slice none 0 0, .string ⟨#[]⟩, .float .f64 0, .float .f64 0, .string ⟨#[]⟩, .int .i64 0, .pointer none, .string ⟨#[]⟩, .string ⟨#[]⟩, .bool one, .bool false, .bool false, .int .i64 0, .bool false])
    (h : wpList Yba.prog ops Q rest (a.put o.dst (.agg (job name st mn mx one))) w) : wpList Yba.prog ops Q (o :: rest) a w := by
  refine wpList_plain hg fun K hK => ?_
  have hrun := build61 name st mn mx one w
  unfold Oper.wp
  simp [execOp, hop, h1, h2, hrun, Result.andThen]
  exact hK _ _ h

/-- What is asked of the job's cells. -/
structure JobIs (w W : World) (J : Nat) (name st : ByteArray) (mn mx : Int) (one : Bool) : Prop where
  below : Below w.heap.size w W
  lt : J + 1 < W.heap.size
  c0 : W.cell? ⟨J, 0, none⟩ = some (.string name)
  c3 : W.cell? ⟨J, 3, none⟩ = some (.int .i64 mn)
  c4 : W.cell? ⟨J, 4, none⟩ = some (.int .i64 mx)
  c14 : W.cell? ⟨J, 14, none⟩ = some (.bool one)
  c19 : W.cell? ⟨J, 19, none⟩ = some (.string st)
  c24 : W.cell? ⟨J, 24, none⟩ = some (.slice none 0 0)
  c81 : W.cell? ⟨J, 81, none⟩ = some (.map none)
  c82 : W.cell? ⟨J, 82, none⟩ = some (.map none)

theorem JobIs.next {w W W' : World} {J : Nat} {name st : ByteArray} {mn mx : Int} {one : Bool} (h : JobIs w W J name st mn mx one) (hb : Below W.heap.size W W') (hw : w.heap.size ≤ W.heap.size) : JobIs w W' J name st mn mx one := by
  have hc : ∀ i, W'.cell? ⟨J, i, none⟩ = W.cell? ⟨J, i, none⟩ := fun i => hb.cell (p := ⟨J, i, none⟩) (by have := h.lt; show J < _; omega)
  exact ⟨h.below.trans (hb.mono hw), by have := h.lt; have := hb.size; omega, (hc 0).trans h.c0, (hc 3).trans h.c3, (hc 4).trans h.c4, (hc 14).trans h.c14, (hc 19).trans h.c19, (hc 24).trans h.c24, (hc 81).trans h.c81, (hc 82).trans h.c82⟩

theorem job_facts (w : World) (name st : ByteArray) (mn mx : Int) (one : Bool) (o : Obj) : JobIs w ((w.alloc (.cells (job name st mn mx one) 61)).alloc o) w.heap.size name st mn mx one := by
  have hc : ∀ i, ((w.alloc (.cells (job name st mn mx one) 61)).alloc o).cell? ⟨w.heap.size, i, none⟩ = (job name st mn mx one)[i]? := fun i => by
    rw [World.cell?_alloc_past _ _ _ (by simp), World.cell?_alloc_at _ _ _ _ rfl]
  exact ⟨((Below.refl _ _).alloc (Nat.le_refl _) _).alloc (by simp) _, by simp, hc 0, hc 3, hc 4, hc 14, hc 19, hc 24, hc 81, hc 82⟩

set_option maxRecDepth 100000 in
set_option maxHeartbeats 1600000 in
theorem walk (sel mn mx s wd : Int) (raw name : ByteArray) (one : Bool) (w : World) (h : 0 ≤ sel ∧ sel ≤ 255) :
    Calls Yba.prog 3 #[.int .u8 sel, .string raw, .string name, .int .i64 mn, .int .i64 mx, .bool one, .int .i64 s, .int .i64 wd] w fun e w' => e = .returned (.bool true) ∧ Below w.heap.size w w' := by
  have q1 := fun (w : World) (a : Option Addr) (n c : Nat) => run_neq_slice_nil_any (P := Yba.prog) w 29 98 a n c 0 0 Yba.underlying29
  have q2 := fun (w : World) (r : Option Nat) => run_neq_map_nil (P := Yba.prog) w 51 3 9 r Yba.underlying51
  have q3 := fun (w : World) (r : Option Nat) => run_neq_map_nil (P := Yba.prog) w 52 9 4 r Yba.underlying52
  go_enter Yba.func3, Yba.ntmps3
  go_wp2_with fail
  refine (state_any sel raw w h).mono ?_
  rintro e w1 ⟨st, rfl, rfl⟩
  go_wp2_with (refine wpList_build61 name st mn mx one rfl rfl rfl rfl ?_)
  refine calls_at (fun W => JobIs w1 W w1.heap.size name st mn mx one) (job_facts w1 name st mn mx one _) ?_
  intro W hJ
  have hw : w1.heap.size ≤ W.heap.size := by have := hJ.lt; omega
  have hlt : w1.heap.size < W.heap.size := by have := hJ.lt; omega
  cases hst : (st.toList == pend)
  · refine (over_other w1.heap.size st s wd W hlt hJ.c19 hst).mono ?_
    rintro e w2 ⟨rfl, hb⟩
    have hJ2 := hJ.next hb hw
    have c0 := hJ2.c0
    have c3 := hJ2.c3
    have c4 := hJ2.c4
    have c14 := hJ2.c14
    have c19 := hJ2.c19
    have c24 := hJ2.c24
    have c81 := hJ2.c81
    have c82 := hJ2.c82
    have HB : Hid (Below w1.heap.size w1 w2) := hJ2.below
    clear hJ hJ2 hb
    unfold pend at hst
    cases one
    · go_wp2
      go_ret
      exact ⟨rfl, HB.out⟩
    · go_wp2
      go_ret
      exact ⟨rfl, HB.out⟩
  obtain ⟨m, hm⟩ : ∃ m, m = (if one then wd else s) := ⟨_, rfl⟩
  by_cases hle : mn ≤ m
  · refine (over_fits w1.heap.size st mn s wd m one W hlt hJ.c19 hst hJ.c3 hJ.c14 hm hle).mono ?_
    rintro e w2 ⟨rfl, hb⟩
    have hJ2 := hJ.next hb hw
    have c0 := hJ2.c0
    have c3 := hJ2.c3
    have c4 := hJ2.c4
    have c14 := hJ2.c14
    have c19 := hJ2.c19
    have c24 := hJ2.c24
    have c81 := hJ2.c81
    have c82 := hJ2.c82
    have HB : Hid (Below w1.heap.size w1 w2) := hJ2.below
    clear hJ hJ2 hb
    unfold pend at hst
    cases one
    · simp only [Bool.false_eq_true, if_false] at hm
      subst hm
      have hd : decide (m < mn) = false := by simp; omega
      go_wp2
      go_ret
      exact ⟨rfl, HB.out⟩
    · simp only [if_true] at hm
      subst hm
      have hd : decide (m < mn) = false := by simp; omega
      go_wp2
      go_ret
      exact ⟨rfl, HB.out⟩
  · refine (over_big w1.heap.size st mn s wd m one W hlt hJ.c19 hst hJ.c3 hJ.c14 hm hle).mono ?_
    rintro e w2 ⟨g, rfl, _, hb, g0, g1, g2⟩
    have hJ2 := hJ.next hb hw
    have c0 := hJ2.c0
    have c3 := hJ2.c3
    have c4 := hJ2.c4
    have c14 := hJ2.c14
    have c19 := hJ2.c19
    have c24 := hJ2.c24
    have c81 := hJ2.c81
    have c82 := hJ2.c82
    have HB : Hid (Below w1.heap.size w1 w2) := hJ2.below
    clear hJ hJ2 hb
    unfold pend at hst
    cases one
    · simp only [Bool.false_eq_true, if_false] at hm
      subst hm
      have hd : m < mn := by omega
      go_wp2
      go_ret
      exact ⟨rfl, HB.out⟩
    · simp only [if_true] at hm
      subst hm
      have hd : m < mn := by omega
      go_wp2
      go_ret
      exact ⟨rfl, HB.out⟩
end Go.Proofs.Ybulkfreo.AWalk
