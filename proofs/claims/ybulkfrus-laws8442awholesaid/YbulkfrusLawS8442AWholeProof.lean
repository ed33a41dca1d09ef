import Derived.Test.YbulkfrusRows
import Derived.Test.YbulkfrusLaw
import Derived.WalkKit
import Derived.ProofKit
import Derived.OpenShut
import Derived.ShutString
import Derived.ChangeOld
import Derived.Below
import Derived.SizedLaws
import Derived.Deep.Slices
namespace Go.Proofs.Ybulkfrus.lawS8442AWhole
open Go.ChangeShapes Go.WideShapes Go.ChangeAt Go.RowKit Go.Deep Go.Proofs.Ybulkfrus.Base Go.Proofs.Ybulkfrus.Walk
set_option linter.unusedVariables false

theorem own : ownKnob Yba.prog.godebug = none := by kernel_rfl
theorem laidOut : laidOutB Yba.prog = true := by kernel_rfl
theorem cells38 : Yba.prog.cellsOf 38 = 4 := by kernel_rfl
theorem cells9 : Yba.prog.cellsOf 9 = 1 := by kernel_rfl
theorem cells4 : Yba.prog.cellsOf 4 = 1 := by kernel_rfl
theorem cells25 : Yba.prog.cellsOf 25 = 1 := by kernel_rfl
theorem bytes38 : Yba.prog.bytesOf 38 = 48 := by kernel_rfl

theorem four {l : List Value} (h : l.length = 4) : ∃ a b c d, l = [a, b, c, d] := by
  match l, h with
  | [a, b, c, d], _ => exact ⟨a, b, c, d, rfl⟩

theorem trod_bit {H : Type} {enc : TypeId × Value → H} {P : Program} {w : World} {base : Nat} {spare : Nat → Bool} {held : Bool} {fuel : Nat} {t : TypeId} {cs : List Value} {x : DataW H × List MemPlace}
    (ht : P.underlying t = some .bool) (h : DataW.trod enc P w base spare held fuel t cs = some x) : ∃ b, cs = [.bool b] := by
  cases fuel with
  | zero => simp [DataW.trod] at h
  | succ n =>
    unfold DataW.trod at h
    rw [ht] at h
    split at h <;> simp_all

/-- A slice of steps that came in: its cells, and how its datum is spelt. -/
theorem open_steps {H : Type} {enc : TypeId × Value → H} {w : World} {base : Nat} {held : Bool} {fuel : Nat} {a : Option Addr} {len cap : Nat} {x : DataW H × List MemPlace}
    (h : DataW.trod enc Yba.prog w base (fun _ => true) held fuel 22 [.slice a len cap] = some x) :
    (∃ C, StpsAt w a len C) ∧ (len = 0 ∨ ∃ elems spare, x.1 = .slice elems spare ∧ elems.length = len) := by
  rcases open_slice Yba.underlying22 h with ⟨hcs, _⟩ | ⟨ad, len', cap', m, n, D, Pl, hcs, _, hl, hm, hmm, hxx, hx⟩
  · simp at hcs
    obtain ⟨rfl, rfl, rfl⟩ := hcs
    exact ⟨⟨fun _ => ⟨false, ⟨#[]⟩, 0, ⟨#[]⟩⟩, fun h0 => by omega⟩, .inl rfl⟩
  · simp at hcs
    obtain ⟨rfl, rfl, rfl⟩ := hcs
    refine ⟨?_, .inr ⟨_, _, by rw [hxx], by simp⟩⟩
    simp at hmm
    subst hmm
    rw [cells38] at hx
    have key : ∀ i, i < len → ∃ s : Stp, w.cell? (ad.add (i * 4)) = some (.bool s.il) ∧ w.cell? (ad.add (i * 4 + 1)) = some (.string s.key) ∧ w.cell? (ad.add (i * 4 + 2)) = some (.int .u64 s.ctr) ∧ w.cell? (ad.add (i * 4 + 3)) = some (.string s.rep) := by
      intro i hi
      obtain ⟨cs, h1, h2⟩ := hx i (by omega)
      obtain ⟨_, hlen, hc⟩ := World.cells?_some h1
      obtain ⟨c0, c1, c2, c3, rfl⟩ := four hlen
      obtain ⟨xs, n', _, _, _, hxl, hf⟩ := DataW.trod_struct Yba.underlying38 h2
      have t0 : DataW.trod enc Yba.prog w base (fun _ => true) held n' 4 (([c0, c1, c2, c3].drop 0).take (Yba.prog.cellsOf 4)) = xs[0]? := hf 0 _ rfl
      have t1 : DataW.trod enc Yba.prog w base (fun _ => true) held n' 9 (([c0, c1, c2, c3].drop 1).take (Yba.prog.cellsOf 9)) = xs[1]? := hf 1 _ rfl
      have t2 : DataW.trod enc Yba.prog w base (fun _ => true) held n' 25 (([c0, c1, c2, c3].drop 2).take (Yba.prog.cellsOf 25)) = xs[2]? := hf 2 _ rfl
      have t3 : DataW.trod enc Yba.prog w base (fun _ => true) held n' 9 (([c0, c1, c2, c3].drop 3).take (Yba.prog.cellsOf 9)) = xs[3]? := hf 3 _ rfl
      rw [cells4] at t0
      rw [cells9] at t1 t3
      rw [cells25] at t2
      simp only [List.drop_zero, List.drop_succ_cons, List.take_succ_cons, List.take_zero] at t0 t1 t2 t3
      have hx4 : xs.length = 4 := hxl
      rw [List.getElem?_eq_getElem (by omega)] at t0 t1 t2 t3
      obtain ⟨a0, e0⟩ := trod_bit Yba.underlying4 t0
      obtain ⟨s1, e1, _, _⟩ := DataW.trod_string Yba.underlying9 t1
      obtain ⟨a2, e2, _, _⟩ := DataW.trod_int Yba.underlying25 t2
      obtain ⟨s3, e3, _, _⟩ := DataW.trod_string Yba.underlying9 t3
      simp at e0 e1 e2 e3
      subst e0 e1 e2 e3
      have g0 := hc 0 (by omega)
      have g1 := hc 1 (by omega)
      have g2 := hc 2 (by omega)
      have g3 := hc 3 (by omega)
      rw [add_add] at g0 g1 g2 g3
      exact ⟨⟨a0, s1, a2, s3⟩, by simpa using g0, by simpa using g1, by simpa using g2, by simpa using g3⟩
    obtain ⟨F, hF⟩ : ∃ F : Nat → Stp, ∀ i, i < len → w.cell? (ad.add (i * 4)) = some (.bool (F i).il) ∧ w.cell? (ad.add (i * 4 + 1)) = some (.string (F i).key) ∧ w.cell? (ad.add (i * 4 + 2)) = some (.int .u64 (F i).ctr) ∧ w.cell? (ad.add (i * 4 + 3)) = some (.string (F i).rep) := by
      classical
      refine ⟨fun i => if h : i < len then Classical.choose (key i h) else ⟨false, ⟨#[]⟩, 0, ⟨#[]⟩⟩, fun i hi => ?_⟩
      simp only [dif_pos hi]
      exact Classical.choose_spec (key i hi)
    refine ⟨F, fun h0 => ?_⟩
    obtain ⟨b, off, spot⟩ := ad
    have hspot : spot = none := by simpa [Addr.add] using World.cell?_spot (hF 0 h0).1
    subst hspot
    refine ⟨b, off, rfl, ?_, fun k hk => ?_⟩
    · have := World.block_lt_of_cell? _ _ (hF 0 h0).1
      simpa [Addr.add] using this
    · obtain ⟨f0, f1, f2, f3⟩ := hF k hk
      rw [Addr.add_mid] at f0 f1 f2 f3
      exact ⟨f0, by rw [Nat.add_assoc]; exact f1, by rw [Nat.add_assoc]; exact f2, by rw [Nat.add_assoc]; exact f3⟩

set_option maxRecDepth 100000 in
theorem lifted (os : Os) (started : os.Started) (H : Type) (enc : TypeId × Value → H) :
    ReturnsInHanded {} Yba.checked os 3 .any (Rows.lawS8442AWholeSpec.pre6 enc Yba.prog Yba.f3 Rows.lawS8442AWholeRow.domain false) (Rows.lawS8442AWholeSpec.post enc Yba.prog Yba.f3 false true false false) := by
  refine returnsInHanded_of_change_sized (C := Yba.checked) own started (by kernel_rfl) Yba.func3
    (ChangeSpec.witness6 (enc := enc) (C := Yba.checked) false ⟨#[], #[.slice none 0 0, .slice none 0 0, .slice none 0 0, .bool false], []⟩ 8 (by kernel_rfl) (by kernel_rfl) (by kernel_rfl) (by kernel_rfl)) ?_
  intro W base args ds gs before hval0 hW hcnd hsz0 _
  have hsz : (DataW.weightsEach Yba.prog (Yba.f3.params.toList ++ Rows.lawS8442AWholeSpec.plain.varTypes Yba.prog) (ds ++ gs)).all (· ≤ reachBytes) = true := hsz0
  have hval : ∀ (j : Nat) t v, Yba.f3.params[j]? = some t → args[j]? = some v → Value.okWide Yba.prog W .any base t v := hval0
  have hW' := hW
  obtain ⟨p, q, hA0, hV, rfl, hfz, hnd⟩ := hW
  have hA : DataW.TrodAll enc Yba.prog W 0 (fun _ => true) true Yba.f3.params.toList args.toList ds p := hA0
  rw [Yba.params3] at hA hval hsz
  obtain ⟨v0, v1, v2, v3, d0, d1, d2, d3, p0, p1, p2, p3, rfl, rfl, rfl, h0, h1, h2, h3⟩ := trodAll_four hA
  obtain ⟨rfl, rfl⟩ := trodVars_none hV
  obtain ⟨a0, len0, cap0, rfl⟩ := okWide_slice Yba.underlying22 (hval 0 22 v0 rfl rfl)
  obtain ⟨a1, len1, cap1, rfl⟩ := okWide_slice Yba.underlying22 (hval 1 22 v1 rfl rfl)
  obtain ⟨a2, len2, cap2, rfl⟩ := okWide_slice Yba.underlying22 (hval 2 22 v2 rfl rfl)
  obtain ⟨b3, rfl, rfl, rfl⟩ := open_bool Yba.underlying4 (hval 3 4 v3 rfl rfl) h3
  have lt0 : ∀ x ∈ p0, x.block < W.heap.size := by obtain ⟨m, hm⟩ := h0; exact DataW.trod_lt m _ _ _ hm
  have lt1 : ∀ x ∈ p1, x.block < W.heap.size := by obtain ⟨m, hm⟩ := h1; exact DataW.trod_lt m _ _ _ hm
  have lt2 : ∀ x ∈ p2, x.block < W.heap.size := by obtain ⟨m, hm⟩ := h2; exact DataW.trod_lt m _ _ _ hm
  obtain ⟨⟨C, hC⟩, z0⟩ : (∃ C, StpsAt W a0 len0 C) ∧ (len0 = 0 ∨ ∃ elems spare, d0 = .slice elems spare ∧ elems.length = len0) := by
    obtain ⟨fuel, hf⟩ := h0
    exact open_steps (by simpa [Value.cells] using hf)
  obtain ⟨⟨A, hA1⟩, z1⟩ : (∃ C, StpsAt W a1 len1 C) ∧ (len1 = 0 ∨ ∃ elems spare, d1 = .slice elems spare ∧ elems.length = len1) := by
    obtain ⟨fuel, hf⟩ := h1
    exact open_steps (by simpa [Value.cells] using hf)
  obtain ⟨⟨B, hB⟩, z2⟩ : (∃ C, StpsAt W a2 len2 C) ∧ (len2 = 0 ∨ ∃ elems spare, d2 = .slice elems spare ∧ elems.length = len2) := by
    obtain ⟨fuel, hf⟩ := h2
    exact open_steps (by simpa [Value.cells] using hf)
  have m0 : len0 < 2 ^ 47 := by
    rcases z0 with rfl | ⟨el, sp, rfl, rfl⟩
    · decide
    · have := sized_slice hsz (j := 0) (t := 22) (e := 38) rfl rfl Yba.underlying22
      rw [bytes38] at this
      have := reachBytes_lt
      omega
  have m1 : len1 < 2 ^ 47 := by
    rcases z1 with rfl | ⟨el, sp, rfl, rfl⟩
    · decide
    · have := sized_slice hsz (j := 1) (t := 22) (e := 38) rfl rfl Yba.underlying22
      rw [bytes38] at this
      have := reachBytes_lt
      omega
  have m2 : len2 < 2 ^ 47 := by
    rcases z2 with rfl | ⟨el, sp, rfl, rfl⟩
    · decide
    · have := sized_slice hsz (j := 2) (t := 22) (e := 38) rfl rfl Yba.underlying22
      rw [bytes38] at this
      have := reachBytes_lt
      omega
  clear hA0 hval0 hsz hsz0 z0 z1 z2
  refine (law_any C A B a0 a1 a2 len0 cap0 len1 cap1 len2 cap2 b3 W (by omega) hC hA1 hB).mono fun e W' ⟨he, bel⟩ => ?_
  subst he
  exact ⟨_, rfl, _, _, _, [], _, [], hW', trodAll_mk1 (shut_bool Yba.underlying4 _), trodAll_mk4 (Below.trod laidOut (by kernel_rfl) (of_decide_eq_true (by kernel_rfl)) h0 bel lt0) (Below.trod laidOut (by kernel_rfl) (of_decide_eq_true (by kernel_rfl)) h1 bel lt1) (Below.trod laidOut (by kernel_rfl) (of_decide_eq_true (by kernel_rfl)) h2 bel lt2) (shut_bool Yba.underlying4 _), rfl, bel.frame _, fun h => by cases h⟩

theorem over : Rows.lawS8442AWholeRow.holds Yba.pinned (OpenSpec.ofChange Rows.lawS8442AWholeSpec) :=
  OpenClaim.holds_of_wide 3 Yba.f3 rfl rfl rfl rfl rfl rfl rfl ⟨rfl, rfl, rfl, rfl, rfl⟩ rfl rfl rfl rfl rfl (by kernel_rfl) Yba.func3 (by kernel_rfl)
    (of_decide_eq_true (by kernel_rfl)) (by unfold Func.isWrapper; first | (rw [if_pos (by decide +kernel)]; kernel_rfl) | (rw [if_neg (by decide +kernel)]; exact ⟨rfl, rfl⟩))
    (fun os started H enc _ => lifted os started H enc)

/-- THE STATEMENT -/
theorem proved : Rows.LawS8442AWholeSaid := over
#print axioms proved
end Go.Proofs.Ybulkfrus.lawS8442AWhole
