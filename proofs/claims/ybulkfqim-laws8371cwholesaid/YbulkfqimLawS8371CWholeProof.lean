import Derived.Test.YbulkfqimCEdge
import Derived.ProofKit
import Derived.OpenShut
import Derived.ShutString
import Derived.ChangeOld
import Derived.Below
import Derived.Deep.Slices
import Derived.Deep.Strs
namespace Go.Proofs.Ybulkfqim.lawS8371CWhole
open Go.ChangeShapes Go.WideShapes Go.ChangeAt Go.RowKit Go.Deep Go.Proofs.Ybulkfqim.CWalk
set_option linter.unusedVariables false

theorem own : ownKnob Yba.prog.godebug = none := by kernel_rfl
theorem laidOut : laidOutB Yba.prog = true := by kernel_rfl
theorem cells47 : Yba.prog.cellsOf 47 = 3 := by kernel_rfl
theorem cells24 : Yba.prog.cellsOf 24 = 1 := by kernel_rfl
theorem cells3 : Yba.prog.cellsOf 3 = 1 := by kernel_rfl

theorem three {l : List Value} (h : l.length = 3) : ∃ a b c, l = [a, b, c] := by
  match l, h with
  | [a, b, c], _ => exact ⟨a, b, c, rfl⟩

theorem open_runs {H : Type} {enc : TypeId × Value → H} {w : World} {base : Nat} {held : Bool} {fuel : Nat} {a : Option Addr} {len cap : Nat} {x : DataW H × List MemPlace}
    (h : DataW.trod enc Yba.prog w base (fun _ => true) held fuel 44 [.slice a len cap] = some x) : IsRuns w a len cap := by
  rcases open_slice Yba.underlying44 h with ⟨hcs, _⟩ | ⟨ad, len', cap', m, n, D, Pl, hcs, _, hl, hm, hmm, _, hx⟩
  · simp at hcs
    exact .inl hcs
  · simp at hcs
    obtain ⟨rfl, rfl, rfl⟩ := hcs
    refine .inr ⟨ad, rfl, fun h0 => ?_⟩
    simp at hmm
    subst hmm
    rw [cells47] at hx
    have key : ∀ i, i < len → ∃ t : Int × Int × Int, w.cell? (ad.add (i * 3)) = some (.int .u64 t.1) ∧ w.cell? (ad.add (i * 3 + 1)) = some (.int .i64 t.2.1) ∧ w.cell? (ad.add (i * 3 + 2)) = some (.int .i64 t.2.2) := by
      intro i hi
      obtain ⟨cs, h1, h2⟩ := hx i (by omega)
      obtain ⟨_, hlen, hc⟩ := World.cells?_some h1
      obtain ⟨c0, c1, c2, rfl⟩ := three hlen
      obtain ⟨y0, y1, y2, n', _, _, t0, t1, t2⟩ := trod_struct3 Yba.underlying47 h2
      simp only [cells24, cells3, List.drop_zero, List.drop_succ_cons, List.take_succ_cons, List.take_zero] at t0 t1 t2
      obtain ⟨a0, e0, _, _⟩ := DataW.trod_int Yba.underlying24 t0
      obtain ⟨a1, e1, _, _⟩ := DataW.trod_int Yba.underlying3 t1
      obtain ⟨a2, e2, _, _⟩ := DataW.trod_int Yba.underlying3 t2
      simp at e0 e1 e2
      subst e0 e1 e2
      have g0 := hc 0 (by omega)
      have g1 := hc 1 (by omega)
      have g2 := hc 2 (by omega)
      rw [add_add] at g0 g1 g2
      exact ⟨(a0, a1, a2), by simpa using g0, by simpa using g1, by simpa using g2⟩
    obtain ⟨F, hF⟩ := choose_lt key
    obtain ⟨b, off, spot⟩ := ad
    have hspot : spot = none := by simpa [Addr.add] using World.cell?_spot (hF 0 h0).1
    subst hspot
    refine ⟨b, off, rfl, ?_, fun i => (F i).1, fun i => (F i).2.1, fun i => (F i).2.2, fun i hi => ?_, fun i hi => ?_, fun i hi => ?_⟩
    · have := World.block_lt_of_cell? _ _ (hF 0 h0).1
      simpa [Addr.add] using this
    · have := (hF i hi).1; rwa [add_plain] at this
    · have := (hF i hi).2.1; rwa [add_plain] at this
    · have := (hF i hi).2.2; rwa [add_plain] at this

set_option maxRecDepth 100000 in
theorem lifted (os : Os) (started : os.Started) (H : Type) (enc : TypeId × Value → H) :
    ReturnsInHanded {} Yba.checked os 6 .any (Rows.lawS8371CWholeSpec.pre6 enc Yba.prog Yba.f6 Rows.lawS8371CWholeRow.domain false) (Rows.lawS8371CWholeSpec.post enc Yba.prog Yba.f6 false true false false) := by
  refine returnsInHanded_of_change (C := Yba.checked) own started (by kernel_rfl) Yba.func6
    (ChangeSpec.witness6 (enc := enc) (C := Yba.checked) false ⟨#[], #[.slice none 0 0, .int .i64 0, .bool false], []⟩ 8 (by kernel_rfl) (by kernel_rfl) (by kernel_rfl) (by kernel_rfl)) ?_
  intro W base args ds gs before hval0 hW hcnd _
  have hval : ∀ (j : Nat) t v, Yba.f6.params[j]? = some t → args[j]? = some v → Value.okWide Yba.prog W .any base t v := hval0
  have hW' := hW
  obtain ⟨p, q, hA0, hV, rfl, hfz, hnd⟩ := hW
  have hA : DataW.TrodAll enc Yba.prog W 0 (fun _ => true) true Yba.f6.params.toList args.toList ds p := hA0
  rw [Yba.params6] at hA hval
  obtain ⟨v0, vs0, d0, ds0, p0, q0, hargs, rfl, rfl, h0, r0⟩ := trodAll_cons hA
  obtain ⟨v1, vs1, d1, ds1, p1, q1, rfl, rfl, rfl, h1, r1⟩ := trodAll_cons r0
  obtain ⟨v2, vs2, d2, ds2, p2, q2, rfl, rfl, rfl, h2, r2⟩ := trodAll_cons r1
  obtain ⟨rfl, rfl, rfl⟩ := trodAll_nil r2
  obtain rfl : args = #[v0, v1, v2] := by cases args; simp_all
  obtain ⟨rfl, rfl⟩ := trodVars_none hV
  obtain ⟨a0, len0, cap0, rfl⟩ := okWide_slice Yba.underlying44 (hval 0 44 v0 rfl rfl)
  obtain ⟨a1, rfl, rfl, rfl, w1⟩ := open_int Yba.underlying3 (hval 1 3 v1 rfl rfl) h1
  obtain ⟨a2, rfl, rfl, rfl⟩ := open_bool Yba.underlying4 (hval 2 4 v2 rfl rfl) h2
  have k0 := h0
  have lt0 : ∀ x ∈ p0, x.block < W.heap.size := by obtain ⟨m, hm⟩ := k0; exact DataW.trod_lt m _ _ _ hm
  have w0 : IsRuns W a0 len0 cap0 := by
    obtain ⟨fuel, hf⟩ := h0
    exact open_runs (by simpa [Value.cells] using hf)
  clear hA0 hval0
  refine (walk a0 len0 cap0 a1 a2 W w0).mono fun e W' ⟨he, bel⟩ => ?_
  subst he
  exact ⟨_, rfl, _, _, _, [], _, [], hW', trodAll_mk1 (shut_bool Yba.underlying4 _), (trodAll_cons_mk (Below.trod laidOut (by kernel_rfl) (of_decide_eq_true (by kernel_rfl)) k0 bel lt0) (trodAll_cons_mk (shut_int Yba.underlying3 w1) (trodAll_cons_mk (shut_bool Yba.underlying4 _) trodAll_mk0))), rfl, bel.frame _, fun h => by cases h⟩

theorem over : Rows.lawS8371CWholeRow.holds Yba.pinned (OpenSpec.ofChange Rows.lawS8371CWholeSpec) :=
  OpenClaim.holds_of_wide 6 Yba.f6 rfl rfl rfl rfl rfl rfl rfl ⟨rfl, rfl, rfl, rfl, rfl⟩ rfl rfl rfl rfl rfl (by kernel_rfl) Yba.func6 (by kernel_rfl)
    (of_decide_eq_true (by kernel_rfl)) (by unfold Func.isWrapper; first | (rw [if_pos (by decide +kernel)]; kernel_rfl) | (rw [if_neg (by decide +kernel)]; exact ⟨rfl, rfl⟩))
    (fun os started H enc _ => lifted os started H enc)

/-- THE STATEMENT -/
theorem proved : Rows.LawS8371CWholeSaid := over
#print axioms proved
end Go.Proofs.Ybulkfqim.lawS8371CWhole
