import Derived.Test.YbulkfrusRows
import Derived.WalkKit
import Derived.WalkSpells
import Derived.WalkLawsBesides
import Derived.Below
import Derived.WalkSmall
import Derived.Deep.QuietTactic
import Derived.BigQuiet
import Derived.Deep.OwnRows
import Derived.Deep.MidRow
import Derived.LaidEqlPtr
import Derived.Lib.Builder
namespace Go.Proofs.Ybulkfrus.Base
open Go.RowKit
set_option linter.unusedVariables false

/-- A step as data. -/
structure Stp where
  il : Bool
  key : ByteArray
  ctr : Int
  rep : ByteArray

/-- A step's cells. -/
def Stp.agg (s : Stp) : Value := .agg #[.bool s.il, .string s.key, .int .u64 s.ctr, .string s.rep]

/-- Go's '==' on two steps. -/
def eqB (s t : Stp) : Bool := (s.il == t.il) && ((s.key.toList == t.key.toList) && ((s.ctr == t.ctr) && (s.rep.toList == t.rep.toList)))

theorem eqB_refl (s : Stp) : eqB s s = true := by simp [eqB]

theorem eqIn_run (s t : Stp) (w : World) :
    (Op.equalIn 10000 29 (.agg #[.bool s.il, .string s.key, .int .u64 s.ctr, .string s.rep]) (.agg #[.bool t.il, .string t.key, .int .u64 t.ctr, .string t.rep])).run Yba.prog w = .ok (eqB s t) w := by
  go_simp
  by_cases h1 : s.il = t.il <;> by_cases h2 : s.key.toList = t.key.toList <;> by_cases h3 : s.ctr = t.ctr <;> by_cases h4 : s.rep.toList = t.rep.toList <;> simp [eqB, h1, h2, h3, h4]

theorem eql_run (s t : Stp) (w : World) :
    (binOp .eql 29 (.agg #[.bool s.il, .string s.key, .int .u64 s.ctr, .string s.rep]) (.agg #[.bool t.il, .string t.key, .int .u64 t.ctr, .string t.rep])).run Yba.prog w = .ok (.bool (eqB s t)) w := by
  rw [run_eql_struct, eqIn_run]; rfl
theorem neq_run (s t : Stp) (w : World) :
    (binOp .neq 29 (.agg #[.bool s.il, .string s.key, .int .u64 s.ctr, .string s.rep]) (.agg #[.bool t.il, .string t.key, .int .u64 t.ctr, .string t.rep])).run Yba.prog w = .ok (.bool (!eqB s t)) w := by
  rw [run_neq_struct, eqIn_run]; rfl

/-! ### Slices of steps -/
/-- n steps lie at block b from offset off on. -/
def SLie (w : World) (b off n : Nat) (C : Nat → Stp) : Prop := ∀ k, k < n →
  w.cell? ⟨b, off + k * 4, none⟩ = some (.bool (C k).il) ∧ w.cell? ⟨b, off + k * 4 + 1, none⟩ = some (.string (C k).key) ∧ w.cell? ⟨b, off + k * 4 + 2, none⟩ = some (.int .u64 (C k).ctr) ∧ w.cell? ⟨b, off + k * 4 + 3, none⟩ = some (.string (C k).rep)

/-- What is known of a slice of steps at address a (of an empty one: nothing). -/
def StpsAt (w : World) (a : Option Addr) (n : Nat) (C : Nat → Stp) : Prop := 0 < n → ∃ b off, a = some ⟨b, off, none⟩ ∧ b < w.heap.size ∧ SLie w b off n C

theorem SLie.below {w w' : World} {b off n : Nat} {C : Nat → Stp} {B : Nat} (h : SLie w b off n C) (hb : Below B w w') (hB : b < B) : SLie w' b off n C := fun k hk => by
  obtain ⟨h0, h1, h2, h3⟩ := h k hk
  have hc : ∀ i, w'.cell? ⟨b, i, none⟩ = w.cell? ⟨b, i, none⟩ := fun i => hb.cell (p := ⟨b, i, none⟩) hB
  exact ⟨(hc _).trans h0, (hc _).trans h1, (hc _).trans h2, (hc _).trans h3⟩

/-- What was known at the beginning is known behind whatever makes memory alone. -/
theorem StpsAt.below {w w' : World} {a : Option Addr} {n : Nat} {C : Nat → Stp} (h : StpsAt w a n C) (hb : Below w.heap.size w w') : StpsAt w' a n C := fun h0 => by
  obtain ⟨b, off, ha, hlt, hl⟩ := h h0
  exact ⟨b, off, ha, Nat.lt_of_lt_of_le hlt hb.size, hl.below hb hlt⟩

/-! ### Paths -/
/-- The pointer to the node of depth i. -/
def ptrAt (β : Nat → Nat) : Nat → Value
  | 0 => .pointer none
  | i + 1 => .pointer (some ⟨β i, 0, none⟩)

/-- A node's cells. -/
def node (β : Nat → Nat) (S : Nat → Stp) (i : Nat) : Array Value := #[ptrAt β i, .bool (S i).il, .string (S i).key, .int .u64 (S i).ctr, .string (S i).rep, .int .i64 ((i : Int) + 1)]

/-- A path of L nodes: node i lies in block 'β i', bears step 'S i' and the number i + 1, and leads to node i - 1. -/
def PathIs (w : World) (β : Nat → Nat) (S : Nat → Stp) (L : Nat) : Prop := ∀ i, i < L → w.heap[β i]? = some (.cells (node β S i) 35 (0, 0))

theorem PathIs.lt {w : World} {β : Nat → Nat} {S : Nat → Stp} {L : Nat} (h : PathIs w β S L) {i : Nat} (hi : i < L) : β i < w.heap.size := (Array.getElem?_eq_some_iff.1 (h i hi)).1

theorem PathIs.below {w w' : World} {β : Nat → Nat} {S : Nat → Stp} {L : Nat} (h : PathIs w β S L) (hb : Below w.heap.size w w') : PathIs w' β S L := fun i hi => by
  rw [hb.block _ (h.lt hi)]; exact h i hi

theorem ptrAt_congr {β γ : Nat → Nat} : ∀ {i : Nat}, (∀ j, j < i → β j = γ j) → ptrAt β i = ptrAt γ i
  | 0, _ => rfl
  | i + 1, h => by simp only [ptrAt, h i (by omega)]

theorem node_congr {β γ : Nat → Nat} {S T : Nat → Stp} {i : Nat} (h : ∀ j, j < i → β j = γ j) (hs : S i = T i) : node β S i = node γ T i := by
  unfold node; rw [ptrAt_congr h, hs]

/-- A node more. -/
theorem PathIs.more {w w' : World} {β γ : Nat → Nat} {S T : Nat → Stp} {L : Nat} (h : PathIs w β S L) (hb : Below w.heap.size w w') (hβ : ∀ j, j < L → γ j = β j) (hS : ∀ j, j < L → T j = S j)
    (hn : w'.heap[γ L]? = some (.cells #[ptrAt β L, .bool (T L).il, .string (T L).key, .int .u64 (T L).ctr, .string (T L).rep, .int .i64 ((L : Int) + 1)] 35 (0, 0))) : PathIs w' γ T (L + 1) := fun i hi => by
  by_cases e : i = L
  · subst e
    rw [hn]; unfold node; rw [ptrAt_congr hβ]
  · have hi' : i < L := by omega
    rw [hβ i hi', hb.block _ (h.lt hi'), h i hi', node_congr (fun j hj => hβ j (by omega)) (hS i hi')]
end Go.Proofs.Ybulkfrus.Base
