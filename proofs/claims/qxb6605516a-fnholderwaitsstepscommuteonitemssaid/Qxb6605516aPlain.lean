/-
  THE PLAIN SIDE OF SEAT b6605516a: what a step does to the items and to its list, by recursion on the number of entries met; two steps, in either order, as a closed form. No program in sight.
-/
import Derived.WalkKit
namespace Go.Proofs.Qxb6605516a.Pl
open Go Go.RowKit

/-- An item: epoch, waiting, steps. -/
abbrev I3 := Int × Int × Int
/-- An entry: item, epoch. -/
abbrev E2 := Int × Int

def upd {α : Type} (f : Nat → α) (k : Nat) (v : α) : Nat → α := fun j => if j = k then v else f j
theorem upd_same {α : Type} (f : Nat → α) (k : Nat) (v : α) : upd f k v k = v := by simp [upd]
theorem upd_other {α : Type} (f : Nat → α) (k j : Nat) (v : α) (h : j ≠ k) : upd f k v j = f j := by simp [upd, h]

/-- The item behind one step of it, were it kept. -/
def one (d : Int) (w : I3) : I3 := (w.1, wrap32 (w.2.1 + d), wrap32 (w.2.2 - 1))

/-- The items, the list's cells, and how many entries are kept. -/
abbrev St := (Nat → I3) × (Nat → E2) × Nat

def stepE (d : Int) (s : St) (e : E2) : St :=
  if (s.1 e.1.toNat).1 = e.2 then
    (if (one d (s.1 e.1.toNat)).2.2 < 0 then (upd s.1 e.1.toNat (0, 0, 0), s.2.1, s.2.2) else (upd s.1 e.1.toNat (one d (s.1 e.1.toNat)), upd s.2.1 s.2.2 e, s.2.2 + 1))
  else s

/-- The state behind the first k entries. -/
def run (d : Int) (it : Nat → I3) (E : Nat → E2) : Nat → St
  | 0 => (it, E, 0)
  | k + 1 => stepE d (run d it E k) (E k)

theorem run_le (d : Int) (it : Nat → I3) (E : Nat → E2) : ∀ k, (run d it E k).2.2 ≤ k
  | 0 => Nat.le_refl _
  | k + 1 => by
    have := run_le d it E k
    simp only [run, stepE]
    split
    · split
      · simp only; omega
      · simp only; omega
    · omega

/-- What is not yet written over is as it was. -/
theorem run_rest (d : Int) (it : Nat → I3) (E : Nat → E2) : ∀ k j, (run d it E k).2.2 ≤ j → (run d it E k).2.1 j = E j
  | 0, _, _ => rfl
  | k + 1, j, h => by
    have ih := run_rest d it E k j
    simp only [run, stepE] at h ⊢
    split at h
    · rename_i c
      rw [if_pos c] at ⊢
      split at h
      · rename_i c2
        rw [if_pos c2]; exact ih h
      · rename_i c2
        rw [if_neg c2]
        simp only at h ⊢
        rw [upd_other _ _ _ _ (by omega)]; exact ih (by omega)
    · rename_i c
      rw [if_neg c]; exact ih h

/-- Whatever is kept was an entry. -/
theorem run_kept (d : Int) (it : Nat → I3) (E : Nat → E2) : ∀ k j, j < (run d it E k).2.2 → ∃ i, i < k ∧ (run d it E k).2.1 j = E i
  | 0, _, h => absurd h (Nat.not_lt_zero _)
  | k + 1, j, h => by
    have ih := run_kept d it E k j
    have out : ∀ {p : E2}, (∃ i, i < k ∧ p = E i) → ∃ i, i < k + 1 ∧ p = E i := fun ⟨i, hi, he⟩ => ⟨i, by omega, he⟩
    simp only [run, stepE] at h ⊢
    split at h
    · rename_i c
      rw [if_pos c] at ⊢
      split at h
      · rename_i c2
        rw [if_pos c2]; exact out (ih h)
      · rename_i c2
        rw [if_neg c2]
        simp only at h ⊢
        by_cases e : j = (run d it E k).2.2
        · subst e
          exact ⟨k, by omega, upd_same _ _ _⟩
        · rw [upd_other _ _ _ _ e]; exact out (ih (by omega))
    · rename_i c
      rw [if_neg c]; exact out (ih h)

/-- Does the entry name the count of item x? -/
def ind (it : Nat → I3) (x : Nat) (e : E2) : Nat := if e.1.toNat = x ∧ (it x).1 = e.2 then 1 else 0
theorem ind_pos (it : Nat → I3) (x : Nat) (e : E2) (h1 : e.1.toNat = x) (h2 : (it x).1 = e.2) : ind it x e = 1 := if_pos ⟨h1, h2⟩
theorem ind_neg (it : Nat → I3) (x : Nat) (e : E2) (h : ¬ (e.1.toNat = x ∧ (it x).1 = e.2)) : ind it x e = 0 := if_neg h
theorem ind_le (it : Nat → I3) (x : Nat) (e : E2) : ind it x e ≤ 1 := by unfold ind; split <;> omega

/-- How many of the first k entries name the count of item x. -/
def cnt (it : Nat → I3) (E : Nat → E2) (x : Nat) : Nat → Nat
  | 0 => 0
  | k + 1 => cnt it E x k + ind it x (E k)

theorem cnt_le (it : Nat → I3) (E : Nat → E2) (x : Nat) : ∀ k, cnt it E x k ≤ k
  | 0 => Nat.le_refl _
  | k + 1 => by have := cnt_le it E x k; have := ind_le it x (E k); simp only [cnt]; omega

theorem cnt_congr (it it' : Nat → I3) (E E' : Nat → E2) (x : Nat) (h : (it x).1 = (it' x).1) : ∀ k, (∀ j, j < k → E j = E' j) → cnt it E x k = cnt it' E' x k
  | 0, _ => rfl
  | k + 1, hE => by simp only [cnt]; rw [cnt_congr it it' E E' x h k (fun j hj => hE j (by omega)), hE k (by omega)]; unfold ind; rw [h]

theorem cnt_zero (it : Nat → I3) (E : Nat → E2) (x : Nat) (h : (it x).1 = 0) : ∀ k, (∀ j, j < k → (E j).2 ≠ 0) → cnt it E x k = 0
  | 0, _ => rfl
  | k + 1, hE => by
    simp only [cnt]
    rw [cnt_zero it E x h k (fun j hj => hE j (by omega)), ind_neg]
    rintro ⟨_, h2⟩
    exact hE k (by omega) (by rw [← h2, h])

/-- c steps of one item: none where it is let go. -/
def res (d : Int) : Nat → I3 → Option I3
  | 0, w => some w
  | c + 1, w => match res d c w with
    | none => none
    | some w' => if (one d w').2.2 < 0 then none else some (one d w')

theorem res_none (d : Int) (c : Nat) (w : I3) (h : res d c w = none) : res d (c + 1) w = none := by simp only [res, h]
theorem res_some (d : Int) (c : Nat) (w w' : I3) (h : res d c w = some w') : res d (c + 1) w = if (one d w').2.2 < 0 then none else some (one d w') := by simp only [res, h]
theorem res_epoch (d : Int) : ∀ (c : Nat) (w w' : I3), res d c w = some w' → w'.1 = w.1
  | 0, w, w', h => by simp only [res, Option.some.injEq] at h; rw [h]
  | c + 1, w, w', h => by
    cases hr : res d c w with
    | none => rw [res_none d c w hr] at h; exact absurd h (by simp)
    | some v =>
      rw [res_some d c w v hr] at h
      split at h
      · exact absurd h (by simp)
      · simp only [Option.some.injEq] at h
        rw [← h, ← res_epoch d c w v hr]; rfl

/-- THE INVARIANT, item by item. -/
theorem run_item (d : Int) (it : Nat → I3) (E : Nat → E2) : ∀ k, (∀ j, j < k → (E j).2 ≠ 0) → ∀ x,
    (run d it E k).1 x = (res d (cnt it E x k) (it x)).getD (0, 0, 0) ∧ ((res d (cnt it E x k) (it x)).isSome = true → cnt it (run d it E k).2.1 x (run d it E k).2.2 = cnt it E x k)
  | 0, _, x => ⟨rfl, fun _ => rfl⟩
  | k + 1, hE, x => by
    have ih := fun y => run_item d it E k (fun j hj => hE j (by omega)) y
    have hEk := hE k (by omega)
    obtain ⟨s, hs⟩ : ∃ s, run d it E k = s := ⟨_, rfl⟩
    have hr : run d it E (k + 1) = stepE d s (E k) := by rw [← hs]; rfl
    rw [hr]
    simp only [hs] at ih
    obtain ⟨y, hy⟩ : ∃ y, (E k).1.toNat = y := ⟨_, rfl⟩
    obtain ⟨i1, i2⟩ := ih x
    obtain ⟨j1, _⟩ := ih y
    have hc : cnt it E x (k + 1) = cnt it E x k + ind it x (E k) := rfl
    -- the epoch of item y now: as it was, or nought
    have hep : (s.1 y).1 = (E k).2 → (∃ v, res d (cnt it E y k) (it y) = some v ∧ s.1 y = v ∧ (it y).1 = (E k).2) := by
      intro h
      cases hv : res d (cnt it E y k) (it y) with
      | none => rw [j1, hv] at h; exact absurd h.symm hEk
      | some v =>
        rw [hv] at j1
        refine ⟨v, rfl, j1, ?_⟩
        rw [j1] at h
        rw [← res_epoch d _ _ _ hv]; exact h
    by_cases hyx : y = x
    · subst hyx
      by_cases hm : (s.1 y).1 = (E k).2
      · obtain ⟨v, hv, hsv, hit⟩ := hep hm
        rw [hc, ind_pos _ _ _ hy hit, res_some d _ _ v hv]
        have e1 : stepE d s (E k) = if (one d v).2.2 < 0 then (upd s.1 y (0, 0, 0), s.2.1, s.2.2) else (upd s.1 y (one d v), upd s.2.1 s.2.2 (E k), s.2.2 + 1) := by
          have hm' := hm
          rw [hsv] at hm'
          simp only [stepE, hy, hsv, hm', if_true]
        rw [e1]
        by_cases hn : (one d v).2.2 < 0
        · rw [if_pos hn, if_pos hn]
          exact ⟨by simp only [upd_same, Option.getD], fun h => by simp at h⟩
        · rw [if_neg hn, if_neg hn]
          refine ⟨by simp only [upd_same, Option.getD], fun _ => ?_⟩
          simp only [cnt, upd_same]
          rw [ind_pos _ _ _ hy hit, cnt_congr it it _ s.2.1 y rfl s.2.2 (fun j hj => upd_other _ _ _ _ (by omega)), i2 (by rw [hv]; rfl)]
      · have e1 : stepE d s (E k) = s := by simp only [stepE, hy, hm, if_false]
        rw [e1, hc]
        by_cases hit : (it y).1 = (E k).2
        · -- it has been let go
          rw [ind_pos _ _ _ hy hit]
          cases hv : res d (cnt it E y k) (it y) with
          | none =>
            rw [res_none d _ _ hv]
            rw [hv] at i1
            exact ⟨i1, fun h => by simp at h⟩
          | some v =>
            exfalso
            apply hm
            rw [i1, hv]
            show v.1 = _
            rw [res_epoch d _ _ _ hv]; exact hit
        · rw [ind_neg _ _ _ (fun h => hit h.2)]
          exact ⟨i1, i2⟩
    · have hix : ind it x (E k) = 0 := ind_neg _ _ _ (fun h => hyx (hy.symm.trans h.1))
      rw [hc, hix]
      have e0 : (stepE d s (E k)).1 x = s.1 x := by
        simp only [stepE, hy]
        split
        · split
          · exact upd_other _ _ _ _ (fun h => hyx h.symm)
          · exact upd_other _ _ _ _ (fun h => hyx h.symm)
        · rfl
      refine ⟨by rw [Nat.add_zero, e0]; exact i1, fun h => ?_⟩
      rw [Nat.add_zero] at h ⊢
      rw [← i2 h]
      simp only [stepE, hy]
      split
      · split
        · rfl
        · simp only [cnt, upd_same]
          rw [hix, cnt_congr it it _ s.2.1 x rfl s.2.2 (fun j hj => upd_other _ _ _ _ (by omega))]; rfl
      · rfl

end Go.Proofs.Qxb6605516a.Pl
