import Derived.Test.YbulkfreoRows
import Derived.Test.YbulkfreoCLaw
import Derived.WalkKit
import Derived.ProofKit
import Derived.OpenShut
import Derived.ShutString
import Derived.ChangeOld
import Derived.Below
import Derived.Deep.Slices
namespace Go.Proofs.Ybulkfreo.lawS8412CWhole
open Go.ChangeShapes Go.WideShapes Go.ChangeAt Go.RowKit Go.Deep Go.Proofs.Ybulkfreo.CWalk
set_option linter.unusedVariables false

theorem own : ownKnob Yba.prog.godebug = none := by kernel_rfl
theorem laidOut : laidOutB Yba.prog = true := by kernel_rfl
theorem cells79 : Yba.prog.cellsOf 79 = 5 := by kernel_rfl
theorem cells9 : Yba.prog.cellsOf 9 = 1 := by kernel_rfl
theorem cells77 : Yba.prog.cellsOf 77 = 1 := by kernel_rfl
theorem cells3 : Yba.prog.cellsOf 3 = 1 := by kernel_rfl
theorem cells24 : Yba.prog.cellsOf 24 = 1 := by kernel_rfl

theorem five {l : List Value} (h : l.length = 5) : ∃ a b c d e, l = [a, b, c, d, e] := by
  match l, h with
  | [a, b, c, d, e], _ => exact ⟨a, b, c, d, e, rfl⟩

theorem trod_float {H : Type} {enc : TypeId × Value → H} {P : Program} {w : World} {base : Nat} {spare : Nat → Bool} {held : Bool} {fuel : Nat} {t : TypeId} {cs : List Value} {x : DataW H × List MemPlace} {k : FloatKind}
    (ht : P.underlying t = some (.float k)) (h : DataW.trod enc P w base spare held fuel t cs = some x) : ∃ b, cs = [.float k b] := by
  cases fuel with
  | zero => simp [DataW.trod] at h
  | succ n =>
    unfold DataW.trod at h
    rw [ht] at h
    split at h <;> simp_all

theorem open_nodes {H : Type} {enc : TypeId × Value → H} {w : World} {base : Nat} {held : Bool} {fuel : Nat} {a : Option Addr} {len cap : Nat} {x : DataW H × List MemPlace}
    (h : DataW.trod enc Yba.prog w base (fun _ => true) held fuel 69 [.slice a len cap] = some x) : IsNodes w a len cap := by
  rcases open_slice Yba.underlying69 h with ⟨hcs, _⟩ | ⟨ad, len', cap', m, n, D, Pl, hcs, _, hl, hm, hmm, _, hx⟩
  · simp at hcs
    exact .inl hcs
  · simp at hcs
    obtain ⟨rfl, rfl, rfl⟩ := hcs
    refine .inr ⟨ad, rfl, fun h0 => ?_⟩
    simp at hmm
    subst hmm
    rw [cells79] at hx
    have key : ∀ i, i < len → ∃ t : ByteArray × Int × Int × Int × Nat, w.cell? (ad.add (i * 5)) = some (.string t.1) ∧ w.cell? (ad.add (i * 5 + 1)) = some (.int .i64 t.2.1) ∧ w.cell? (ad.add (i * 5 + 2)) = some (.int .i64 t.2.2.1) ∧
        w.cell? (ad.add (i * 5 + 3)) = some (.int .i64 t.2.2.2.1) ∧ w.cell? (ad.add (i * 5 + 4)) = some (.float .f64 t.2.2.2.2) := by
      intro i hi
      obtain ⟨cs, h1, h2⟩ := hx i (by omega)
      obtain ⟨_, hlen, hc⟩ := World.cells?_some h1
      obtain ⟨c0, c1, c2, c3, c4, rfl⟩ := five hlen
      obtain ⟨xs, n', _, _, _, hxl, hf⟩ := DataW.trod_struct Yba.underlying79 h2
      have t0 : DataW.trod enc Yba.prog w base (fun _ => true) held n' 9 (([c0, c1, c2, c3, c4].drop 0).take (Yba.prog.cellsOf 9)) = xs[0]? := hf 0 _ rfl
      have t1 : DataW.trod enc Yba.prog w base (fun _ => true) held n' 77 (([c0, c1, c2, c3, c4].drop 1).take (Yba.prog.cellsOf 77)) = xs[1]? := hf 1 _ rfl
      have t2 : DataW.trod enc Yba.prog w base (fun _ => true) held n' 3 (([c0, c1, c2, c3, c4].drop 2).take (Yba.prog.cellsOf 3)) = xs[2]? := hf 2 _ rfl
      have t3 : DataW.trod enc Yba.prog w base (fun _ => true) held n' 3 (([c0, c1, c2, c3, c4].drop 3).take (Yba.prog.cellsOf 3)) = xs[3]? := hf 3 _ rfl
      have t4 : DataW.trod enc Yba.prog w base (fun _ => true) held n' 24 (([c0, c1, c2, c3, c4].drop 4).take (Yba.prog.cellsOf 24)) = xs[4]? := hf 4 _ rfl
      rw [cells9] at t0
      rw [cells77] at t1
      rw [cells3] at t2 t3
      rw [cells24] at t4
      simp only [List.drop_zero, List.drop_succ_cons, List.take_succ_cons, List.take_zero] at t0 t1 t2 t3 t4
      have hx5 : xs.length = 5 := hxl
      rw [List.getElem?_eq_getElem (by omega)] at t0 t1 t2 t3 t4
      obtain ⟨s0, e0, _, _⟩ := DataW.trod_string Yba.underlying9 t0
      obtain ⟨a1, e1, _, _⟩ := DataW.trod_int Yba.underlying77 t1
      obtain ⟨a2, e2, _, _⟩ := DataW.trod_int Yba.underlying3 t2
      obtain ⟨a3, e3, _, _⟩ := DataW.trod_int Yba.underlying3 t3
      obtain ⟨a4, e4⟩ := trod_float Yba.underlying24 t4
      simp at e0 e1 e2 e3 e4
      subst e0 e1 e2 e3 e4
      have g0 := hc 0 (by omega)
      have g1 := hc 1 (by omega)
      have g2 := hc 2 (by omega)
      have g3 := hc 3 (by omega)
      have g4 := hc 4 (by omega)
      rw [add_add] at g0 g1 g2 g3 g4
      exact ⟨(s0, a1, a2, a3, a4), by simpa using g0, by simpa using g1, by simpa using g2, by simpa using g3, by simpa using g4⟩
    obtain ⟨F, hF⟩ := choose_lt key
    obtain ⟨b, off, spot⟩ := ad
    have hspot : spot = none := by simpa [Addr.add] using World.cell?_spot (hF 0 h0).1
    subst hspot
    refine ⟨b, off, ⟨fun i => (F i).1, fun i => (F i).2.1, fun i => (F i).2.2.1, fun i => (F i).2.2.2.1, fun i => (F i).2.2.2.2⟩, rfl, ?_, fun j hj => ?_⟩
    · have := World.block_lt_of_cell? _ _ (hF 0 h0).1
      simpa [Addr.add] using this
    · obtain ⟨f0, f1, f2, f3, f4⟩ := hF (j / 5) (by omega)
      rw [Addr.add_mid] at f0 f1 f2 f3 f4
      rcases (show j = j / 5 * 5 ∨ j = j / 5 * 5 + 1 ∨ j = j / 5 * 5 + 2 ∨ j = j / 5 * 5 + 3 ∨ j = j / 5 * 5 + 4 by omega) with e | e | e | e | e
      · rw [e, Nodes.fld0]; exact f0
      · rw [e, Nodes.fld1]; exact f1
      · rw [e, Nodes.fld2]; exact f2
      · rw [e, Nodes.fld3]; exact f3
      · rw [e, Nodes.fld4]; exact f4

set_option maxRecDepth 100000 in
theorem lifted (os : Os) (started : os.Started) (H : Type) (enc : TypeId × Value → H) :
    ReturnsInHanded {} Yba.checked os 4 .any (Rows.lawS8412CWholeSpec.pre6 enc Yba.prog Yba.f4 Rows.lawS8412CWholeRow.domain false) (Rows.lawS8412CWholeSpec.post enc Yba.prog Yba.f4 false true false false) := by
  refine returnsInHanded_of_change (C := Yba.checked) own started (by kernel_rfl) Yba.func4
    (ChangeSpec.witness6 (enc := enc) (C := Yba.checked) false ⟨#[], #[.int .i64 0, .slice none 0 0], []⟩ 8 (by kernel_rfl) (by kernel_rfl) (by kernel_rfl) (by kernel_rfl)) ?_
  intro W base args ds gs before hval0 hW hcnd _
  have hval : ∀ (j : Nat) t v, Yba.f4.params[j]? = some t → args[j]? = some v → Value.okWide Yba.prog W .any base t v := hval0
  have hW' := hW
  obtain ⟨p, q, hA0, hV, rfl, hfz, hnd⟩ := hW
  have hA : DataW.TrodAll enc Yba.prog W 0 (fun _ => true) true Yba.f4.params.toList args.toList ds p := hA0
  rw [Yba.params4] at hA hval
  obtain ⟨v0, v1, d0, d1, p0, p1, rfl, rfl, rfl, h0, h1⟩ := trodAll_two hA
  obtain ⟨rfl, rfl⟩ := trodVars_none hV
  obtain ⟨a0, rfl, rfl, rfl, w0⟩ := open_int Yba.underlying3 (hval 0 3 v0 rfl rfl) h0
  obtain ⟨a1, len1, cap1, rfl⟩ := okWide_slice Yba.underlying69 (hval 1 69 v1 rfl rfl)
  have k1 := h1
  have lt1 : ∀ x ∈ p1, x.block < W.heap.size := by obtain ⟨m, hm⟩ := k1; exact DataW.trod_lt m _ _ _ hm
  have w1 : IsNodes W a1 len1 cap1 := by
    obtain ⟨fuel, hf⟩ := h1
    exact open_nodes (by simpa [Value.cells] using hf)
  have hb := bounds_i64 w0
  clear hA0 hval0
  refine (walk a0 a1 len1 cap1 W w1 (by omega)).mono fun e W' ⟨he, bel⟩ => ?_
  subst he
  exact ⟨_, rfl, _, _, _, [], _, [], hW', trodAll_mk1 (shut_bool Yba.underlying4 _), trodAll_mk2 (shut_int Yba.underlying3 w0) (Below.trod laidOut (by kernel_rfl) (of_decide_eq_true (by kernel_rfl)) k1 bel lt1), rfl, bel.frame _, fun h => by cases h⟩

theorem over : Rows.lawS8412CWholeRow.holds Yba.pinned (OpenSpec.ofChange Rows.lawS8412CWholeSpec) :=
  OpenClaim.holds_of_wide 4 Yba.f4 rfl rfl rfl rfl rfl rfl rfl ⟨rfl, rfl, rfl, rfl, rfl⟩ rfl rfl rfl rfl rfl (by kernel_rfl) Yba.func4 (by kernel_rfl)
    (of_decide_eq_true (by kernel_rfl)) (by unfold Func.isWrapper; first | (rw [if_pos (by decide +kernel)]; kernel_rfl) | (rw [if_neg (by decide +kernel)]; exact ⟨rfl, rfl⟩))
    (fun os started H enc _ => lifted os started H enc)

/-- THE STATEMENT -/
theorem proved : Rows.LawS8412CWholeSaid := over
#print axioms proved
end Go.Proofs.Ybulkfreo.lawS8412CWhole
