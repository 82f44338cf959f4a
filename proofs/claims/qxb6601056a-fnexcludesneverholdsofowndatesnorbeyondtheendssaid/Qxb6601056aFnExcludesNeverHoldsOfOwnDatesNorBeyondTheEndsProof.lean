/-
  THE PROOF OF 'Rows.FnExcludesNeverHoldsOfOwnDatesNorBeyondTheEndsSaid': the frame is the guide's (proof-skeleton.mjs, turned to a slice of strings); the walk is Qxb6601056aLaw.lean's.
-/
import Derived.Test.Qxb6601056aRows
import Derived.Test.Qxb6601056aLaw
import Derived.WalkKit
import Derived.ProofKit
import Derived.OpenShut
import Derived.ShutString
import Derived.ChangeOld
import Derived.Below
import Derived.Deep.Strs
namespace Go.Proofs.Qxb6601056a.fnExcludesNeverHoldsOfOwnDatesNorBeyondTheEnds
open Go.ChangeShapes Go.WideShapes Go.ChangeAt Go.RowKit
set_option linter.unusedVariables false

theorem own : ownKnob Try.prog.godebug = none := by kernel_rfl
theorem laidOut : laidOutB Try.prog = true := by kernel_rfl

/-- A cell that is there lies in a block that is there. -/
theorem lt_of_cell {w : World} {b o : Nat} {v : Value} (h : w.cell? ⟨b, o, none⟩ = some v) : b < w.heap.size := by
  by_cases hb : b < w.heap.size
  · exact hb
  · have : w.heap[b]? = Option.none := by simp; omega
    simp [World.cell?, this] at h

/-- What the walk is told of a slice of strings that came in: it has no element; or its elements lie in a row. -/
def IsRow (w : World) (a : Option Addr) (len : Nat) (S : Nat → ByteArray) : Prop :=
  len = 0 ∨ ∃ b off, a = some ⟨b, off, none⟩ ∧ 0 < len ∧ len ≤ maxLen ∧ b < w.heap.size ∧ (∀ i, i < len → w.cell? ⟨b, off + i, none⟩ = some (.string (S i))) ∧ ∀ i, i < len → (S i).size ≤ maxLen

theorem walk (a0 : Option Addr) (len0 cap0 : Nat) (S0 : Nat → ByteArray) (w : World) (w0 : IsRow w a0 len0 S0) :
    Calls Try.prog 4 #[.slice a0 len0 cap0] w fun e w' => e = .returned (.bool true) ∧ Below w.heap.size w w' := by
  rcases w0 with rfl | ⟨b, off, rfl, h0, hm, hb, hc, hs⟩
  · exact law_none a0 cap0 w
  · exact law_some b off len0 cap0 S0 w h0 hm hb hs hc

set_option maxRecDepth 100000 in
theorem lifted (os : Os) (started : os.Started) (H : Type) (enc : TypeId × Value → H) :
    ReturnsInHanded {} Try.checked os 4 .any (Rows.fnExcludesNeverHoldsOfOwnDatesNorBeyondTheEndsSpec.pre6 enc Try.prog Try.f4 Rows.fnExcludesNeverHoldsOfOwnDatesNorBeyondTheEndsRow.domain false) (Rows.fnExcludesNeverHoldsOfOwnDatesNorBeyondTheEndsSpec.post enc Try.prog Try.f4 false true false false) := by
  refine returnsInHanded_of_change (C := Try.checked) own started (by kernel_rfl) Try.func4
    (ChangeSpec.witness6 (enc := enc) (C := Try.checked) false ⟨#[], #[.slice none 0 0], []⟩ 8 (by kernel_rfl) (by kernel_rfl) (by kernel_rfl) (by kernel_rfl)) ?_
  intro W base args ds gs before hval0 hW hcnd _
  have hval : ∀ (j : Nat) t v, Try.f4.params[j]? = some t → args[j]? = some v → Value.okWide Try.prog W .any base t v := hval0
  have hW' := hW
  obtain ⟨p, q, hA0, hV, rfl, hfz, hnd⟩ := hW
  have hA : DataW.TrodAll enc Try.prog W 0 (fun _ => true) true Try.f4.params.toList args.toList ds p := hA0
  rw [Try.params4] at hA hval
  obtain ⟨v0, vs0, d0, ds0, p0, q0, hargs, rfl, rfl, h0, r0⟩ := trodAll_cons hA
  obtain ⟨rfl, rfl, rfl⟩ := trodAll_nil r0
  obtain rfl : args = #[v0] := by cases args; simp_all
  obtain ⟨rfl, rfl⟩ := trodVars_none hV
  obtain ⟨a0, len0, cap0, rfl⟩ := okWide_slice Try.underlying22 (hval 0 22 v0 rfl rfl)
  have k0 := h0
  have lt0 : ∀ x ∈ p0, x.block < W.heap.size := by obtain ⟨m, hm⟩ := k0; exact DataW.trod_lt m _ _ _ hm
  obtain ⟨S0, w0⟩ : ∃ S, IsRow W a0 len0 S := by
    obtain ⟨fuel, hf⟩ := h0
    rcases Go.Deep.open_strs Try.underlying22 Try.underlying9 (by kernel_rfl) hf with ⟨hcs, _⟩ | ⟨x, l, c, m, Sx, hcs, _, hl, hm, hmm, _, hcell⟩
    · simp [Value.cells] at hcs
      obtain ⟨rfl, rfl, rfl⟩ := hcs
      exact ⟨fun _ => ByteArray.empty, .inl rfl⟩
    · simp [Value.cells] at hcs
      obtain ⟨rfl, rfl, rfl⟩ := hcs
      by_cases hz : len0 = 0
      · exact ⟨Sx, .inl hz⟩
      · have hlm : len0 ≤ m := by rw [hmm]; split <;> omega
        obtain ⟨b, off, spot⟩ := x
        have hspot : spot = Option.none := by simpa [Addr.add] using World.cell?_spot (hcell 0 (by omega)).1
        subst hspot
        have hc : ∀ i, i < len0 → W.cell? ⟨b, off + i, Option.none⟩ = some (.string (Sx i)) := fun i hi => by rw [← add_plain]; exact (hcell i (by omega)).1
        exact ⟨Sx, .inr ⟨b, off, rfl, by omega, by omega, lt_of_cell (hc 0 (by omega)), hc, fun i hi => (hcell i (by omega)).2⟩⟩
  clear hA0 hval0
  refine (walk a0 len0 cap0 S0 W w0).mono fun e W' ⟨he, bel⟩ => ?_
  subst he
  exact ⟨_, rfl, _, _, _, [], _, [], hW', trodAll_mk1 (shut_bool Try.underlying4 _), (trodAll_cons_mk (Below.trod laidOut (by kernel_rfl) (of_decide_eq_true (by kernel_rfl)) k0 bel lt0) trodAll_mk0), rfl, bel.frame _, fun h => by cases h⟩

theorem over : Rows.fnExcludesNeverHoldsOfOwnDatesNorBeyondTheEndsRow.holds Try.pinned (OpenSpec.ofChange Rows.fnExcludesNeverHoldsOfOwnDatesNorBeyondTheEndsSpec) :=
  OpenClaim.holds_of_wide 4 Try.f4 rfl rfl rfl rfl rfl rfl rfl ⟨rfl, rfl, rfl, rfl, rfl⟩ rfl rfl rfl rfl rfl (by kernel_rfl) Try.func4 (by kernel_rfl)
    (of_decide_eq_true (by kernel_rfl)) (by unfold Func.isWrapper; first | (rw [if_pos (by decide +kernel)]; kernel_rfl) | (rw [if_neg (by decide +kernel)]; exact ⟨rfl, rfl⟩))
    (fun os started H enc _ => lifted os started H enc)

/-- THE STATEMENT -/
theorem proved : Rows.FnExcludesNeverHoldsOfOwnDatesNorBeyondTheEndsSaid := over
#print axioms proved
end Go.Proofs.Qxb6601056a.fnExcludesNeverHoldsOfOwnDatesNorBeyondTheEnds
