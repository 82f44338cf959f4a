import Derived.Test.Qxb6605516aBase
import Derived.Deep.Slices
import Derived.Deep.SlicePairs
import Derived.Deep.Strs
import Derived.OpenShut
namespace Go.Proofs.Qxb6605516a
open Go.ChangeShapes Go.WideShapes Go.RowKit Go.Deep
open Pl (I3 E2)

theorem list_three {cs : List Value} (h : cs.length = 3) : ∃ v0 v1 v2, cs = [v0, v1, v2] := by
  match cs, h with
  | [v0, v1, v2], _ => exact ⟨v0, v1, v2, rfl⟩

section
variable {H : Type} {enc : TypeId × Value → H} {w : World} {base : Nat} {spare : Nat → Bool} {held : Bool}

theorem cells62 : Try.prog.cellsOf 62 = 3 := by kernel_rfl
theorem cells66 : Try.prog.cellsOf 66 = 2 := by kernel_rfl
theorem cells64 : Try.prog.cellsOf 64 = 1 := by kernel_rfl
theorem cells21 : Try.prog.cellsOf 21 = 1 := by kernel_rfl

/-- A cell that is there lies in a block that is there. -/
theorem lt_of_cell {w : World} {b o : Nat} {v : Value} (h : w.cell? ⟨b, o, none⟩ = some v) : b < w.heap.size := by
  by_cases hb : b < w.heap.size
  · exact hb
  · have : w.heap[b]? = Option.none := by simp; omega
    simp [World.cell?, this] at h

/-- The items among the arguments. -/
theorem view_items {fuel : Nat} {x : DataW H × List MemPlace} {a : Option Addr} {len cap : Nat} (h : DataW.trod enc Try.prog w base spare held fuel 44 [.slice a len cap] = some x) :
    (a = none → len = 0 ∧ cap = 0) ∧ len ≤ maxLen ∧ ∃ it : Nat → I3, ViewI w a len it ∧ ∀ x, x < len → -2147483648 ≤ (it x).2.2 ∧ (it x).2.2 ≤ 2147483647 ∧ -2147483648 ≤ (it x).2.1 ∧ (it x).2.1 ≤ 2147483647 := by
  rcases open_slice Try.underlying44 h with ⟨hcs, _⟩ | ⟨ad, l, c, m, n, D, Pl, hcs, hb, hl, hm, hmm, _, hx⟩
  · simp at hcs
    obtain ⟨rfl, rfl, rfl⟩ := hcs
    exact ⟨fun _ => ⟨rfl, rfl⟩, Nat.zero_le _, fun _ => (0, 0, 0), .inl rfl, fun x hx => absurd hx (Nat.not_lt_zero _)⟩
  · simp at hcs
    obtain ⟨rfl, rfl, rfl⟩ := hcs
    refine ⟨fun h => absurd h (by simp), by omega, ?_⟩
    have hlm : len ≤ m := by rw [hmm]; split <;> omega
    have each : ∀ i, i < len → ∃ q : I3, w.cell? (ad.add (i * 3)) = some (.int .i32 q.1) ∧ w.cell? (ad.add (i * 3 + 1)) = some (.int .i32 q.2.1) ∧ w.cell? (ad.add (i * 3 + 2)) = some (.int .i32 q.2.2) ∧
        -2147483648 ≤ q.2.2 ∧ q.2.2 ≤ 2147483647 ∧ -2147483648 ≤ q.2.1 ∧ q.2.1 ≤ 2147483647 := by
      intro i hi
      obtain ⟨cs', h1, h2⟩ := hx i (by omega)
      rw [cells62] at h1
      obtain ⟨_, hlen, hcell⟩ := World.cells?_some h1
      obtain ⟨y0, y1, y2, k, _, _, g0, g1, g2⟩ := trod_struct3 Try.underlying62 h2
      obtain ⟨v0, v1, v2, rfl⟩ := list_three hlen
      simp [cells21] at g0 g1 g2
      obtain ⟨n0, e0, _, w0⟩ := DataW.trod_int Try.underlying21 g0
      obtain ⟨n1, e1, _, w1⟩ := DataW.trod_int Try.underlying21 g1
      obtain ⟨n2, e2, _, w2⟩ := DataW.trod_int Try.underlying21 g2
      simp at e0 e1 e2
      subst e0 e1 e2
      have c0 := hcell 0 (by omega)
      have c1 := hcell 1 (by omega)
      have c2 := hcell 2 (by omega)
      rw [add_add] at c0 c1 c2
      have b1 := bounds_i32 w1
      have b2 := bounds_i32 w2
      exact ⟨(n0, n1, n2), by simpa using c0, by simpa using c1, by simpa using c2, b2.1, b2.2, b1.1, b1.2⟩
    obtain ⟨it, hit⟩ := choose_lt each
    refine ⟨it, ?_, fun x hx => (hit x hx).2.2.2⟩
    by_cases h0 : len = 0
    · exact .inl h0
    · obtain ⟨b, off, spot⟩ := ad
      have hspot : spot = Option.none := by simpa [Addr.add] using World.cell?_spot (hit 0 (by omega)).1
      subst hspot
      have hc : ∀ j, j < len → w.cell? ⟨b, off + j * 3, none⟩ = some (.int .i32 (it j).1) ∧ w.cell? ⟨b, off + j * 3 + 1, none⟩ = some (.int .i32 (it j).2.1) ∧ w.cell? ⟨b, off + j * 3 + 2, none⟩ = some (.int .i32 (it j).2.2) := fun j hj => by
        have := hit j hj
        simp only [add_plain] at this
        exact ⟨this.1, by rw [Nat.add_assoc]; exact this.2.1, by rw [Nat.add_assoc]; exact this.2.2.1⟩
      exact .inr ⟨b, off, rfl, lt_of_cell (hc 0 (by omega)).1, hc⟩

/-- A list of entries. -/
theorem view_entries {fuel : Nat} {x : DataW H × List MemPlace} {a : Option Addr} {len cap : Nat} (h : DataW.trod enc Try.prog w base spare held fuel 64 [.slice a len cap] = some x) :
    len ≤ maxLen ∧ ∃ E : Nat → E2, ViewE w a len E ∧ ∀ j, j < len → -2147483648 ≤ (E j).1 ∧ (E j).1 ≤ 2147483647 := by
  rcases open_slice_pairs Try.underlying64 Try.underlying66 cells66 rfl rfl cells21 cells21 h with ⟨hcs, _⟩ | ⟨ad, l, c, m, n, V0, V1, D0, D1, P0, P1, hcs, hb, hl, hm, hmm, _, hx⟩
  · simp at hcs
    obtain ⟨rfl, rfl, rfl⟩ := hcs
    exact ⟨Nat.zero_le _, fun _ => (0, 0), .inl rfl, fun x hx => absurd hx (Nat.not_lt_zero _)⟩
  · simp at hcs
    obtain ⟨rfl, rfl, rfl⟩ := hcs
    refine ⟨by omega, ?_⟩
    have hlm : len ≤ m := by rw [hmm]; split <;> omega
    have each : ∀ i, i < len → ∃ q : E2, w.cell? (ad.add (i * 2)) = some (.int .i32 q.1) ∧ w.cell? (ad.add (i * 2 + 1)) = some (.int .i32 q.2) ∧ -2147483648 ≤ q.1 ∧ q.1 ≤ 2147483647 := by
      intro i hi
      obtain ⟨h1, h2, g0, g1⟩ := hx i (by omega)
      obtain ⟨n0, e0, _, w0⟩ := DataW.trod_int Try.underlying21 g0
      obtain ⟨n1, e1, _, _⟩ := DataW.trod_int Try.underlying21 g1
      simp at e0 e1
      rw [e0] at h1
      rw [e1] at h2
      have b0 := bounds_i32 w0
      exact ⟨(n0, n1), h1, h2, b0.1, b0.2⟩
    obtain ⟨E, hE⟩ := choose_lt each
    refine ⟨E, ?_, fun j hj => (hE j hj).2.2⟩
    by_cases h0 : len = 0
    · exact .inl h0
    · obtain ⟨b, off, spot⟩ := ad
      have hspot : spot = Option.none := by simpa [Addr.add] using World.cell?_spot (hE 0 (by omega)).1
      subst hspot
      have hc : ∀ j, j < len → w.cell? ⟨b, off + j * 2, none⟩ = some (.int .i32 (E j).1) ∧ w.cell? ⟨b, off + j * 2 + 1, none⟩ = some (.int .i32 (E j).2) := fun j hj => by
        have := hE j hj
        simp only [add_plain] at this
        exact ⟨this.1, by rw [Nat.add_assoc]; exact this.2.1⟩
      exact .inr ⟨b, off, rfl, lt_of_cell (hc 0 (by omega)).1, hc⟩

/-- The int32s among the arguments. -/
theorem view_nums {fuel : Nat} {x : DataW H × List MemPlace} {a : Option Addr} {len cap : Nat} (h : DataW.trod enc Try.prog w base spare held fuel 35 [.slice a len cap] = some x) :
    len ≤ maxLen ∧ ∃ f : Nat → Int, ViewN w a len f ∧ ∀ j, j < len → -2147483648 ≤ f j ∧ f j ≤ 2147483647 := by
  rcases open_slice1 Try.underlying35 cells21 h with ⟨hcs, _⟩ | ⟨ad, l, c, m, n, V, D, Pl, hcs, hb, hl, hm, hmm, _, hx⟩
  · simp at hcs
    obtain ⟨rfl, rfl, rfl⟩ := hcs
    exact ⟨Nat.zero_le _, fun _ => 0, .inl rfl, fun x hx => absurd hx (Nat.not_lt_zero _)⟩
  · simp at hcs
    obtain ⟨rfl, rfl, rfl⟩ := hcs
    refine ⟨by omega, ?_⟩
    have hlm : len ≤ m := by rw [hmm]; split <;> omega
    have each : ∀ i, i < len → ∃ q : Int, w.cell? (ad.add i) = some (.int .i32 q) ∧ -2147483648 ≤ q ∧ q ≤ 2147483647 := by
      intro i hi
      obtain ⟨h1, g0⟩ := hx i (by omega)
      obtain ⟨n0, e0, _, w0⟩ := DataW.trod_int Try.underlying21 g0
      simp at e0
      rw [e0] at h1
      have b0 := bounds_i32 w0
      exact ⟨n0, h1, b0.1, b0.2⟩
    obtain ⟨f, hf⟩ := choose_lt each
    refine ⟨f, ?_, fun j hj => (hf j hj).2⟩
    by_cases h0 : len = 0
    · exact .inl h0
    · obtain ⟨b, off, spot⟩ := ad
      have hspot : spot = Option.none := by simpa [Addr.add] using World.cell?_spot (hf 0 (by omega)).1
      subst hspot
      have hc : ∀ j, j < len → w.cell? ⟨b, off + j, none⟩ = some (.int .i32 (f j)) := fun j hj => by
        have := hf j hj
        simp only [add_plain] at this
        exact this.1
      exact .inr ⟨b, off, rfl, lt_of_cell (hc 0 (by omega)), hc⟩

/-- The lists among the arguments. -/
theorem view_lists {fuel : Nat} {x : DataW H × List MemPlace} {a : Option Addr} {len cap : Nat} (h : DataW.trod enc Try.prog w base spare held fuel 45 [.slice a len cap] = some x) :
    (a = none → len = 0 ∧ cap = 0) ∧ len ≤ maxLen ∧ ∃ (A : Nat → Option Addr) (ln cp : Nat → Nat) (E : Nat → Nat → E2), ViewL w a len A ln cp E ∧ (∀ j, j < len → ln j ≤ maxLen) ∧ ∀ i j, i < len → j < ln i → -2147483648 ≤ (E i j).1 ∧ (E i j).1 ≤ 2147483647 := by
  rcases open_slice1 Try.underlying45 cells64 h with ⟨hcs, _⟩ | ⟨ad, l, c, m, n, V, D, Pl, hcs, hb, hl, hm, hmm, _, hx⟩
  · simp at hcs
    obtain ⟨rfl, rfl, rfl⟩ := hcs
    exact ⟨fun _ => ⟨rfl, rfl⟩, Nat.zero_le _, fun _ => none, fun _ => 0, fun _ => 0, fun _ _ => (0, 0), .inl rfl, fun x hx => absurd hx (Nat.not_lt_zero _), fun x _ hx => absurd hx (Nat.not_lt_zero _)⟩
  · simp at hcs
    obtain ⟨rfl, rfl, rfl⟩ := hcs
    refine ⟨fun h => absurd h (by simp), by omega, ?_⟩
    have hlm : len ≤ m := by rw [hmm]; split <;> omega
    have each : ∀ i, i < len → ∃ q : Option Addr × Nat × Nat × (Nat → E2), w.cell? (ad.add i) = some (.slice q.1 q.2.1 q.2.2.1) ∧ q.2.1 ≤ maxLen ∧ ViewE w q.1 q.2.1 q.2.2.2 ∧ ∀ j, j < q.2.1 → -2147483648 ≤ (q.2.2.2 j).1 ∧ (q.2.2.2 j).1 ≤ 2147483647 := by
      intro i hi
      obtain ⟨h1, g0⟩ := hx i (by omega)
      obtain ⟨a', l', c', hv⟩ : ∃ a' l' c', V i = .slice a' l' c' := by
        rcases open_slice Try.underlying64 g0 with ⟨e, _⟩ | ⟨b', l', c', _, _, _, _, e, _⟩
        · simp at e; exact ⟨_, _, _, e⟩
        · simp at e; exact ⟨_, _, _, e⟩
      rw [hv] at h1 g0
      obtain ⟨v1, E, v2, v3⟩ := view_entries g0
      exact ⟨(a', l', c', E), h1, v1, v2, v3⟩
    obtain ⟨q, hq⟩ := choose_lt each
    refine ⟨fun j => (q j).1, fun j => (q j).2.1, fun j => (q j).2.2.1, fun j => (q j).2.2.2, ?_, fun j hj => (hq j hj).2.1, fun i j hi hj => (hq i hi).2.2.2 j hj⟩
    by_cases h0 : len = 0
    · exact .inl h0
    · obtain ⟨b, off, spot⟩ := ad
      have hspot : spot = Option.none := by simpa [Addr.add] using World.cell?_spot (hq 0 (by omega)).1
      subst hspot
      have hc : ∀ j, j < len → w.cell? ⟨b, off + j, none⟩ = some (.slice (q j).1 (q j).2.1 (q j).2.2.1) := fun j hj => by
        have := hq j hj
        simp only [add_plain] at this
        exact this.1
      exact .inr ⟨b, off, rfl, lt_of_cell (hc 0 (by omega)), fun j hj => ⟨hc j hj, (hq j hj).2.2.1⟩⟩
end

end Go.Proofs.Qxb6605516a
