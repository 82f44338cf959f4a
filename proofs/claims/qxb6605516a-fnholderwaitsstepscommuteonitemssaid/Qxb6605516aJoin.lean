import Derived.Test.Qxb6605516aStepMake
import Derived.Test.Qxb6605516aStep
import Derived.Test.Qxb6605516aState
import Derived.Test.Qxb6605516aCounts
import Derived.Test.Qxb6605516aGuards
namespace Go.Proofs.Qxb6605516a
open Go.RowKit Go.Deep
open Pl (I3 E2 Ls upd upd_same upd_other hstep cntAt closed)

theorem ViewI.mono {w w' : World} {a : Option Addr} {n : Nat} {it : Nat → I3} (h : ViewI w a n it) (hb : Below w.heap.size w w') : ViewI w' a n it := by
  rcases h with h | ⟨b, off, h1, h2, h3⟩
  · exact .inl h
  · refine .inr ⟨b, off, h1, Nat.lt_of_lt_of_le h2 hb.size, fun j hj => ?_⟩
    rw [hb.cell (p := ⟨b, _, none⟩) h2, hb.cell (p := ⟨b, _, none⟩) h2, hb.cell (p := ⟨b, _, none⟩) h2]
    exact h3 j hj
theorem ViewE.mono {w w' : World} {a : Option Addr} {n : Nat} {E : Nat → E2} (h : ViewE w a n E) (hb : Below w.heap.size w w') : ViewE w' a n E := by
  rcases h with h | ⟨b, off, h1, h2, h3⟩
  · exact .inl h
  · refine .inr ⟨b, off, h1, Nat.lt_of_lt_of_le h2 hb.size, fun j hj => ?_⟩
    rw [hb.cell (p := ⟨b, _, none⟩) h2, hb.cell (p := ⟨b, _, none⟩) h2]
    exact h3 j hj
theorem ViewN.mono {w w' : World} {a : Option Addr} {n : Nat} {f : Nat → Int} (h : ViewN w a n f) (hb : Below w.heap.size w w') : ViewN w' a n f := by
  rcases h with h | ⟨b, off, h1, h2, h3⟩
  · exact .inl h
  · refine .inr ⟨b, off, h1, Nat.lt_of_lt_of_le h2 hb.size, fun j hj => ?_⟩
    rw [hb.cell (p := ⟨b, _, none⟩) h2]
    exact h3 j hj
theorem ViewL.mono {w w' : World} {a : Option Addr} {n : Nat} {A : Nat → Option Addr} {ln cp : Nat → Nat} {E : Nat → Nat → E2} (h : ViewL w a n A ln cp E) (hb : Below w.heap.size w w') : ViewL w' a n A ln cp E := by
  rcases h with h | ⟨b, off, h1, h2, h3⟩
  · exact .inl h
  · refine .inr ⟨b, off, h1, Nat.lt_of_lt_of_le h2 hb.size, fun j hj => ?_⟩
    rw [hb.cell (p := ⟨b, _, none⟩) h2]
    exact ⟨(h3 j hj).1, (h3 j hj).2.mono hb⟩

theorem In3.congr {w : World} {ae aw az : Option Addr} {n : Nat} {it it' : Nat → I3} (h : In3 w ae aw az n it) (he : ∀ x, x < n → it x = it' x) : In3 w ae aw az n it' := by
  rcases h with h | ⟨be, bw, bs, h1, h2, h3, h4, h5, h6⟩
  · exact .inl h
  · exact .inr ⟨be, bw, bs, h1, h2, h3, h4.congr (fun x hx => by unfold ncell; simp only [he x hx]), h5.congr (fun x hx => by unfold ncell; simp only [he x hx]), h6.congr (fun x hx => by unfold ncell; simp only [he x hx])⟩

theorem OwnI.lower {w : World} {t : TypeId} {lo lo' : Nat} {a : Option Addr} {n : Nat} {it : Nat → I3} (h : OwnI w t lo a n it) (hl : lo' ≤ lo) : OwnI w t lo' a n it := by
  rcases h with h | ⟨b, h1, h2, h3⟩
  · exact .inl h
  · exact .inr ⟨b, h1, Nat.le_trans hl h2, h3⟩
theorem OwnL.lower {w : World} {t te : TypeId} {lo lo' : Nat} {a : Option Addr} {n : Nat} {A : Nat → Option Addr} {ln cp : Nat → Nat} {E : Nat → Nat → E2} (h : OwnL w t te lo a n A ln cp E) (hl : lo' ≤ lo) : OwnL w t te lo' a n A ln cp E := by
  rcases h with h | ⟨b, h1, h2, h3, h4⟩
  · exact .inl h
  · refine .inr ⟨b, h1, Nat.le_trans hl h2, h3, fun j hj => ?_⟩
    rcases h4 j hj with h | ⟨b, g1, g2, g3, g4⟩
    · exact .inl h
    · exact .inr ⟨b, g1, Nat.le_trans hl g2, g3, g4⟩

/-- What a step asks of the list at place v. -/
def OkAt (n nl : Nat) (L : Ls) (v : Int) : Prop := 0 ≤ v → v < (nl : Int) ∧ (L v.toNat).2 ≤ 131072 ∧ GoodL n (L v.toNat).2 (L v.toNat).1

theorem OkAt.kept {n nl : Nat} {L : Ls} {v : Int} (h : OkAt n nl L v) : Pl.Kept L v := fun h0 j hj => ((h h0).2.2 j hj).2.2

theorem OkAt.step {n nl : Nat} {L : Ls} {a b : Int} (d : Int) (it : Nat → I3) (ha : OkAt n nl L a) (hb : OkAt n nl L b) : OkAt n nl (hstep d a it L).2 b := by
  intro h0
  obtain ⟨h1, h2, h3⟩ := hb h0
  unfold hstep
  by_cases h : a < 0
  · rw [if_pos h]; exact ⟨h1, h2, h3⟩
  · rw [if_neg h]
    simp only
    by_cases e : b.toNat = a.toNat
    · rw [e, upd_same]
      obtain ⟨g1, g2, g3⟩ := ha (by omega)
      refine ⟨h1, Nat.le_trans (Pl.run_le _ _ _ _) g2, fun j hj => ?_⟩
      obtain ⟨i, hi, he⟩ := Pl.run_kept d it _ _ j hj
      rw [he]
      exact g3 i hi
    · rw [upd_other _ _ _ _ e]
      exact ⟨h1, h2, h3⟩

theorem hstep_len {nl : Nat} {L : Ls} (d a : Int) (it : Nat → I3) (h : ∀ j, j < nl → (L j).2 ≤ 131072) : ∀ j, j < nl → ((hstep d a it L).2 j).2 ≤ 131072 := by
  intro j hj
  unfold hstep
  by_cases h0 : a < 0
  · rw [if_pos h0]; exact h j hj
  · rw [if_neg h0]
    simp only
    by_cases e : j = a.toNat
    · subst e
      rw [upd_same]
      exact Nat.le_trans (Pl.run_le _ _ _ _) (h _ hj)
    · rw [upd_other _ _ _ _ e]; exact h j hj

theorem cntAt_le {n nl : Nat} {L : Ls} {v : Int} (it : Nat → I3) (h : OkAt n nl L v) (x : Nat) : cntAt it L v x ≤ 131072 := by
  unfold cntAt
  by_cases h0 : v < 0
  · rw [if_pos h0]; omega
  · rw [if_neg h0]
    exact Nat.le_trans (Pl.cnt_le _ _ _ _) (h (by omega)).2.1

/-- Both orders come to the closed form. -/
theorem both (n nl : Nat) (L : Ls) (it : Nat → I3) (d1 a1 d2 a2 : Int) (h1 : OkAt n nl L a1) (h2 : OkAt n nl L a2) (x : Nat) (hs : -2147483648 ≤ (it x).2.2 ∧ (it x).2.2 ≤ 2147483647) :
    (hstep d2 a2 (hstep d1 a1 it L).1 (hstep d1 a1 it L).2).1 x = closed d1 d2 (cntAt it L a1 x) (cntAt it L a2 x) (it x) ∧
    (hstep d1 a1 (hstep d2 a2 it L).1 (hstep d2 a2 it L).2).1 x = closed d1 d2 (cntAt it L a1 x) (cntAt it L a2 x) (it x) := by
  have c1 := cntAt_le it h1 x
  have c2 := cntAt_le it h2 x
  refine ⟨?_, ?_⟩
  · rw [Pl.two_item d1 a1 d2 a2 it L h1.kept h2.kept x, Pl.two_closed _ _ _ _ _ hs.1 hs.2 (by omega) (by omega)]
  · rw [Pl.two_item d2 a2 d1 a1 it L h2.kept h1.kept x, Pl.two_closed _ _ _ _ _ hs.1 hs.2 (by omega) (by omega), Pl.closed_swap]

theorem mul_bd (c : Nat) (d : Int) (hc : c ≤ 131072) (h1 : -2147483648 ≤ d) (h2 : d ≤ 2147483647) : -281474976710656 ≤ (c : Int) * d ∧ (c : Int) * d ≤ 281474976710656 := by
  have a1 : (c : Int) * d ≤ (c : Int) * 2147483647 := Int.mul_le_mul_of_nonneg_left h2 (by omega)
  have a2 : (c : Int) * (-2147483648) ≤ (c : Int) * d := Int.mul_le_mul_of_nonneg_left h1 (by omega)
  omega

end Go.Proofs.Qxb6605516a
