/-
  THE PLAIN SIDE OF SEAT b6605516a, FURTHER: two steps in a row, item by item, and the closed form of both together.
-/
import Derived.Test.Qxb6605516aPlain
namespace Go.Proofs.Qxb6605516a.Pl
open Go Go.RowKit

/-- The lists: of each its cells and how many of them are its entries. -/
abbrev Ls := Nat → (Nat → E2) × Nat

/-- A step of a transaction whose list is at place 'a' (none where a is negative). -/
def hstep (d a : Int) (it : Nat → I3) (L : Ls) : (Nat → I3) × Ls :=
  if a < 0 then (it, L) else ((run d it (L a.toNat).1 (L a.toNat).2).1, upd L a.toNat (run d it (L a.toNat).1 (L a.toNat).2).2)

def cntAt (it : Nat → I3) (L : Ls) (a : Int) (x : Nat) : Nat := if a < 0 then 0 else cnt it (L a.toNat).1 x (L a.toNat).2

/-- No entry of the list has epoch 0. -/
def Kept (L : Ls) (a : Int) : Prop := 0 ≤ a → ∀ j, j < (L a.toNat).2 → ((L a.toNat).1 j).2 ≠ 0

theorem hstep_item (d a : Int) (it : Nat → I3) (L : Ls) (hk : Kept L a) (x : Nat) : (hstep d a it L).1 x = (res d (cntAt it L a x) (it x)).getD (0, 0, 0) := by
  unfold hstep cntAt
  by_cases h : a < 0
  · rw [if_pos h, if_pos h]; rfl
  · rw [if_neg h, if_neg h]
    exact (run_item d it (L a.toNat).1 (L a.toNat).2 (hk (by omega)) x).1

theorem hstep_kept (d a b : Int) (it : Nat → I3) (L : Ls) (ha : Kept L a) (hb : Kept L b) : Kept (hstep d a it L).2 b := by
  intro h0 j hj
  unfold hstep at hj ⊢
  by_cases h : a < 0
  · rw [if_pos h] at hj ⊢; exact hb h0 j hj
  · rw [if_neg h] at hj ⊢
    simp only at hj ⊢
    by_cases e : b.toNat = a.toNat
    · rw [e, upd_same] at hj ⊢
      obtain ⟨i, hi, he⟩ := run_kept d it _ _ j hj
      rw [he]
      exact ha (by omega) i hi
    · rw [upd_other _ _ _ _ e] at hj ⊢
      exact hb h0 j hj

/-- The counts behind a step: as they were, or nought where the item was let go. -/
theorem hstep_cnt (d a b : Int) (it : Nat → I3) (L : Ls) (ha : Kept L a) (hb : Kept L b) (x : Nat) :
    cntAt (hstep d a it L).1 (hstep d a it L).2 b x = if (res d (cntAt it L a x) (it x)).isSome = true then cntAt it L b x else 0 := by
  have hit := hstep_item d a it L ha x
  have hkb := hstep_kept d a b it L ha hb
  cases hr : res d (cntAt it L a x) (it x) with
  | none =>
    rw [if_neg (by simp)]
    rw [hr] at hit
    unfold cntAt
    by_cases h : b < 0
    · rw [if_pos h]
    · rw [if_neg h]
      exact cnt_zero _ _ _ (by rw [hit]; rfl) _ (hkb (by omega))
  | some v =>
    rw [if_pos (show (some v).isSome = true from rfl)]
    rw [hr] at hit
    have hep : ((hstep d a it L).1 x).1 = (it x).1 := by rw [hit]; exact res_epoch d _ _ _ hr
    unfold cntAt
    by_cases h : b < 0
    · rw [if_pos h, if_pos h]
    · rw [if_neg h, if_neg h]
      by_cases h2 : a < 0
      · simp only [hstep, if_pos h2]
      · by_cases e : b.toNat = a.toNat
        · have i2 := (run_item d it (L a.toNat).1 (L a.toNat).2 (ha (by omega)) x).2
          unfold cntAt at hr
          rw [if_neg h2] at hr
          rw [hr] at i2
          rw [e, ← i2 rfl]
          have e2 : (hstep d a it L).2 a.toNat = (run d it (L a.toNat).1 (L a.toNat).2).2 := by simp only [hstep, if_neg h2, upd_same]
          rw [e2]
          exact cnt_congr _ _ _ _ x hep _ (fun _ _ => rfl)
        · have e2 : (hstep d a it L).2 b.toNat = L b.toNat := by simp only [hstep, if_neg h2]; exact upd_other _ _ _ _ e
          rw [e2]
          exact cnt_congr _ _ _ _ x hep _ (fun _ _ => rfl)

/-- TWO STEPS, item by item. -/
theorem two_item (d1 a1 d2 a2 : Int) (it : Nat → I3) (L : Ls) (h1 : Kept L a1) (h2 : Kept L a2) (x : Nat) :
    (hstep d2 a2 (hstep d1 a1 it L).1 (hstep d1 a1 it L).2).1 x = ((res d1 (cntAt it L a1 x) (it x)).bind (res d2 (cntAt it L a2 x))).getD (0, 0, 0) := by
  rw [hstep_item d2 a2 _ _ (hstep_kept d1 a1 a2 it L h1 h2) x, hstep_cnt d1 a1 a2 it L h1 h2 x, hstep_item d1 a1 it L h1 x]
  cases hr : res d1 (cntAt it L a1 x) (it x) with
  | none => rfl
  | some v => rfl

/-- At which step a count with s steps left is let go. -/
def resetAt (s : Int) : Int := if 0 ≤ s then s + 1 else if s = -2147483648 then 1099511627776 else 1

/-- Both together. -/
def closed (d1 d2 : Int) (c1 c2 : Nat) (w : I3) : I3 :=
  if (0 : Int) < (c1 : Int) + (c2 : Int) then (if resetAt w.2.2 ≤ (c1 : Int) + (c2 : Int) then (0, 0, 0) else (w.1, wrap32 (w.2.1 + (c1 : Int) * d1 + (c2 : Int) * d2), wrap32 (w.2.2 - ((c1 : Int) + (c2 : Int))))) else w

theorem w32_add (a b : Int) : wrap32 (wrap32 a + b) = wrap32 (a + b) := by unfold wrap32; omega
theorem w32_sub (a b : Int) : wrap32 (wrap32 a - b) = wrap32 (a - b) := by unfold wrap32; omega
theorem w32_id (a : Int) (h1 : -2147483648 ≤ a) (h2 : a ≤ 2147483647) : wrap32 a = a := by unfold wrap32; omega

theorem res_closed (d : Int) (w : I3) (h1 : -2147483648 ≤ w.2.2) (h2 : w.2.2 ≤ 2147483647) : ∀ c : Nat, c ≤ 1048576 → 0 < c →
    res d c w = if resetAt w.2.2 ≤ (c : Int) then none else some (w.1, wrap32 (w.2.1 + (c : Int) * d), wrap32 (w.2.2 - (c : Int)))
  | 0, _, h => absurd h (Nat.lt_irrefl _)
  | 1, _, _ => by
    have e : res d 1 w = if (one d w).2.2 < 0 then none else some (one d w) := rfl
    rw [e]
    have hc : (one d w).2.2 < 0 ↔ resetAt w.2.2 ≤ ((1 : Nat) : Int) := by
      show wrap32 (w.2.2 - 1) < 0 ↔ _
      unfold resetAt wrap32
      split
      · omega
      · split <;> omega
    by_cases h : (one d w).2.2 < 0
    · rw [if_pos h, if_pos (hc.1 h)]
    · rw [if_neg h, if_neg (fun h' => h (hc.2 h'))]
      simp [one]
  | c + 2, hc, _ => by
    have ih := res_closed d w h1 h2 (c + 1) (by omega) (by omega)
    by_cases h : resetAt w.2.2 ≤ ((c + 1 : Nat) : Int)
    · rw [if_pos h] at ih
      rw [res_none d _ _ ih, if_pos (by omega)]
    · rw [if_neg h] at ih
      rw [res_some d _ _ _ ih]
      have e1 : (one d (w.1, wrap32 (w.2.1 + ((c + 1 : Nat) : Int) * d), wrap32 (w.2.2 - ((c + 1 : Nat) : Int)))) = (w.1, wrap32 (w.2.1 + ((c + 2 : Nat) : Int) * d), wrap32 (w.2.2 - ((c + 2 : Nat) : Int))) := by
        unfold one
        simp only
        rw [w32_add, w32_sub]
        have : ((c + 2 : Nat) : Int) * d = ((c + 1 : Nat) : Int) * d + d := by
          rw [show ((c + 2 : Nat) : Int) = ((c + 1 : Nat) : Int) + 1 by omega, Int.add_mul, Int.one_mul]
        rw [this, ← Int.add_assoc]
        rw [show w.2.2 - ((c + 1 : Nat) : Int) - 1 = w.2.2 - ((c + 2 : Nat) : Int) by omega]
      rw [e1]
      have hcc : wrap32 (w.2.2 - ((c + 2 : Nat) : Int)) < 0 ↔ resetAt w.2.2 ≤ ((c + 2 : Nat) : Int) := by
        unfold resetAt wrap32 at *
        split at h
        · rename_i hp
          rw [if_pos hp]; omega
        · rename_i hp
          rw [if_neg hp]
          split at h
          · rename_i hq
            rw [if_pos hq]; omega
          · omega
      by_cases h' : wrap32 (w.2.2 - ((c + 2 : Nat) : Int)) < 0
      · rw [if_pos h', if_pos (hcc.1 h')]
      · rw [if_neg h', if_neg (fun h'' => h' (hcc.2 h''))]

/-- THE CLOSED FORM. -/
theorem two_closed (d1 d2 : Int) (c1 c2 : Nat) (w : I3) (h1 : -2147483648 ≤ w.2.2) (h2 : w.2.2 ≤ 2147483647) (b1 : c1 ≤ 262144) (b2 : c2 ≤ 262144) :
    ((res d1 c1 w).bind (res d2 c2)).getD (0, 0, 0) = closed d1 d2 c1 c2 w := by
  unfold closed
  by_cases z1 : c1 = 0
  · subst z1
    have e0 : (res d1 0 w).bind (res d2 c2) = res d2 c2 w := rfl
    rw [e0]
    by_cases z2 : c2 = 0
    · subst z2
      rw [if_neg (by omega)]; rfl
    · rw [if_pos (by omega), res_closed d2 w h1 h2 c2 (by omega) (by omega)]
      have e1 : ((0 : Nat) : Int) + (c2 : Int) = (c2 : Int) := by omega
      have e2 : w.2.1 + ((0 : Nat) : Int) * d1 + (c2 : Int) * d2 = w.2.1 + (c2 : Int) * d2 := by rw [Int.natCast_zero, Int.zero_mul, Int.add_zero]
      rw [e1, e2]
      split <;> rfl
  · rw [if_pos (by omega), res_closed d1 w h1 h2 c1 (by omega) (by omega)]
    by_cases r1 : resetAt w.2.2 ≤ (c1 : Int)
    · rw [if_pos r1, if_pos (by omega)]; rfl
    · rw [if_neg r1]
      have e0 : (some (w.1, wrap32 (w.2.1 + (c1 : Int) * d1), wrap32 (w.2.2 - (c1 : Int)))).bind (res d2 c2) = res d2 c2 (w.1, wrap32 (w.2.1 + (c1 : Int) * d1), wrap32 (w.2.2 - (c1 : Int))) := rfl
      rw [e0]
      by_cases z2 : c2 = 0
      · subst z2
        have e1 : (c1 : Int) + ((0 : Nat) : Int) = (c1 : Int) := by omega
        have e2 : w.2.1 + (c1 : Int) * d1 + ((0 : Nat) : Int) * d2 = w.2.1 + (c1 : Int) * d1 := by rw [Int.natCast_zero, Int.zero_mul, Int.add_zero]
        rw [e1, e2, if_neg r1]; rfl
      · have hw : -2147483648 ≤ wrap32 (w.2.2 - (c1 : Int)) ∧ wrap32 (w.2.2 - (c1 : Int)) ≤ 2147483647 := by unfold wrap32; omega
        rw [res_closed d2 _ hw.1 hw.2 c2 (by omega) (by omega)]
        simp only
        rw [w32_add, w32_sub]
        have hcc : resetAt (wrap32 (w.2.2 - (c1 : Int))) ≤ (c2 : Int) ↔ resetAt w.2.2 ≤ (c1 : Int) + (c2 : Int) := by
          unfold resetAt at *
          split at r1
          · rename_i hp
            have e : wrap32 (w.2.2 - (c1 : Int)) = w.2.2 - (c1 : Int) := by unfold wrap32; omega
            rw [e, if_pos (by omega), if_pos hp]; omega
          · rename_i hp
            split at r1
            · rename_i hq
              have e : wrap32 (w.2.2 - (c1 : Int)) = 2147483648 - (c1 : Int) := by unfold wrap32; omega
              rw [e, if_pos (by omega), if_neg hp, if_pos hq]; omega
            · omega
        have e3 : w.2.2 - (c1 : Int) - (c2 : Int) = w.2.2 - ((c1 : Int) + (c2 : Int)) := by omega
        rw [e3]
        by_cases h : resetAt w.2.2 ≤ (c1 : Int) + (c2 : Int)
        · rw [if_pos h, if_pos (hcc.2 h)]; rfl
        · rw [if_neg h, if_neg (fun h' => h (hcc.1 h'))]; rfl

theorem closed_swap (d1 d2 : Int) (c1 c2 : Nat) (w : I3) : closed d2 d1 c2 c1 w = closed d1 d2 c1 c2 w := by
  unfold closed
  rw [Int.add_comm (c2 : Int) (c1 : Int), show w.2.1 + (c2 : Int) * d2 + (c1 : Int) * d1 = w.2.1 + (c1 : Int) * d1 + (c2 : Int) * d2 by omega]

end Go.Proofs.Qxb6605516a.Pl
