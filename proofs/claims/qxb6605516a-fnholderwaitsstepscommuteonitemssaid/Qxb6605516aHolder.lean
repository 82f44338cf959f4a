import Derived.Test.Qxb6605516aLists
import Derived.Test.Qxb6605516aClosed
namespace Go.Proofs.Qxb6605516a
open Go.RowKit Go.Deep
open Pl (I3 E2 Ls upd upd_same upd_other)

/-- EVERY SLICE OF LISTS: its clone. -/
theorem cloneL_any (a : Option Addr) (n c : Nat) (A : Nat → Option Addr) (ln cp : Nat → Nat) (E : Nat → Nat → E2) (w : World) (hn : n ≤ 65536) (hln : ∀ j, j < n → ln j ≤ 131072) (hc0 : a = none → n = 0 ∧ c = 0) (hv : ViewL w a n A ln cp E) :
    Calls Try.prog 24 #[.slice a n c] w fun e w' => ∃ a' A', e = .returned (.slice a' n n) ∧ OwnL w' 64 66 w.heap.size a' n A' ln ln E ∧ Below w.heap.size w w' := by
  cases a with
  | none =>
    obtain ⟨rfl, rfl⟩ := hc0 rfl
    refine (cloneL_nil w).mono ?_
    rintro e w' ⟨rfl, rfl⟩
    exact ⟨none, fun _ => none, rfl, .inl ⟨rfl, rfl⟩, Below.refl _ _⟩
  | some ad =>
    rcases hv with rfl | ⟨b, off, he, hbw, hc⟩
    · refine (cloneL_empty ad c w).mono ?_
      rintro e w' ⟨rfl, h2, h3⟩
      exact ⟨_, fun _ => none, rfl, .inr ⟨_, rfl, Nat.le_refl _, h2.congr (fun j hj => absurd hj (Nat.not_lt_zero _)), fun j hj => absurd hj (Nat.not_lt_zero _)⟩, h3⟩
    · rw [he]
      refine (cloneL_some b off n c A ln cp E w hn hln hbw hc).mono ?_
      rintro e w' ⟨rfl, A', h⟩
      exact ⟨_, A', rfl, .inr ⟨_, rfl, Nat.le_refl _, h.row.congr (fun j hj => by rw [upto_lt _ _ _ _ hj]; rfl), h.each⟩, h.below⟩

/-- The cells of a holderWaits: ask, keep and epoch 0, free nil. -/
def hcell (vi vl vo : Value) : Nat → Value
  | 0 => .int .i32 0
  | 1 => .int .i32 0
  | 2 => vi
  | 3 => vl
  | 4 => vo
  | 5 => .slice none 0 0
  | _ => .int .i32 0

/-- The lists of a holder. -/
def HL (w : World) (lo : Nat) (al : Option Addr) (nl : Nat) (A : Nat → Option Addr) (cp : Nat → Nat) (L : Ls) : Prop :=
  (al = none ∧ nl = 0) ∨ ∃ bl, al = some ⟨bl, 0, none⟩ ∧ lo ≤ bl ∧ w.rowIs bl 107 nl (lv A (fun j => (L j).2) cp) ∧
    (∀ j, j < nl → OwnR w 109 2 lo (A j) (L j).2 (cp j) (ecell (L j).1)) ∧ (∀ i j, i < nl → j < nl → A i = A j → A i ≠ none → i = j)

/-- A holderWaits in memory, all of it from block 'lo' on. -/
def Holder (w : World) (lo hb n : Nat) (it : Nat → I3) (nl : Nat) (L : Ls) (nn : Nat) (LO : Nat → Int) : Prop :=
  ∃ ai al A cp bo, w.rowIs hb 104 7 (hcell (.slice ai n n) (.slice al nl nl) (.slice (some ⟨bo, 0, none⟩) nn nn)) ∧ lo ≤ hb ∧ OwnI w 106 lo ai n it ∧ HL w lo al nl A cp L ∧ lo ≤ bo ∧ w.rowIs bo 21 nn (ncell LO)

theorem HL.mono {w w' : World} {lo nl : Nat} {al : Option Addr} {A : Nat → Option Addr} {cp : Nat → Nat} {L : Ls} (h : HL w lo al nl A cp L) (hb : Below w.heap.size w w') : HL w' lo al nl A cp L := by
  rcases h with h | ⟨bl, h1, h2, h3, h4, h5⟩
  · exact .inl h
  · exact .inr ⟨bl, h1, h2, row_all hb h3, fun j hj => (h4 j hj).mono hb, h5⟩

theorem Holder.mono {w w' : World} {lo hb n nl nn : Nat} {it : Nat → I3} {L : Ls} {LO : Nat → Int} (h : Holder w lo hb n it nl L nn LO) (hbl : Below w.heap.size w w') : Holder w' lo hb n it nl L nn LO := by
  obtain ⟨ai, al, A, cp, bo, h1, h2, h3, h4, h5, h6⟩ := h
  exact ⟨ai, al, A, cp, bo, row_all hbl h1, h2, h3.mono hbl, h4.mono hbl, h5, row_all hbl h6⟩

/-- The items as three rows. -/
def In3 (w : World) (ae aw az : Option Addr) (n : Nat) (it : Nat → I3) : Prop :=
  (ae = none ∧ aw = none ∧ az = none ∧ n = 0) ∨ ∃ be bw bs, ae = some ⟨be, 0, none⟩ ∧ aw = some ⟨bw, 0, none⟩ ∧ az = some ⟨bs, 0, none⟩ ∧
    w.rowIs be 21 n (ncell fun j => (it j).1) ∧ w.rowIs bw 21 n (ncell fun j => (it j).2.1) ∧ w.rowIs bs 21 n (ncell fun j => (it j).2.2)
/-- A list as two rows. -/
def Two (w : World) (a1 a2 : Option Addr) (l : Nat) (E : Nat → E2) : Prop :=
  (a1 = none ∧ a2 = none ∧ l = 0) ∨ ∃ b1 b2, a1 = some ⟨b1, 0, none⟩ ∧ a2 = some ⟨b2, 0, none⟩ ∧ w.rowIs b1 21 l (ncell fun j => (E j).1) ∧ w.rowIs b2 21 l (ncell fun j => (E j).2)
/-- The lists as two slices of rows. -/
def In2 (w : World) (a1 a2 : Option Addr) (nl : Nat) (ln : Nat → Nat) (E : Nat → Nat → E2) : Prop :=
  (a1 = none ∧ a2 = none ∧ nl = 0) ∨ ∃ b1 b2 A1 A2, a1 = some ⟨b1, 0, none⟩ ∧ a2 = some ⟨b2, 0, none⟩ ∧ w.rowIs b1 35 nl (lv A1 ln ln) ∧ w.rowIs b2 35 nl (lv A2 ln ln) ∧ ∀ a, a < nl → Two w (A1 a) (A2 a) (ln a) (E a)

theorem In3.mono {w w' : World} {ae aw az : Option Addr} {n : Nat} {it : Nat → I3} (h : In3 w ae aw az n it) (hb : Below w.heap.size w w') : In3 w' ae aw az n it := by
  rcases h with h | ⟨be, bw, bs, h1, h2, h3, h4, h5, h6⟩
  · exact .inl h
  · exact .inr ⟨be, bw, bs, h1, h2, h3, row_all hb h4, row_all hb h5, row_all hb h6⟩
theorem Two.mono {w w' : World} {a1 a2 : Option Addr} {l : Nat} {E : Nat → E2} (h : Two w a1 a2 l E) (hb : Below w.heap.size w w') : Two w' a1 a2 l E := by
  rcases h with h | ⟨b1, b2, h1, h2, h3, h4⟩
  · exact .inl h
  · exact .inr ⟨b1, b2, h1, h2, row_all hb h3, row_all hb h4⟩
theorem In2.mono {w w' : World} {a1 a2 : Option Addr} {nl : Nat} {ln : Nat → Nat} {E : Nat → Nat → E2} (h : In2 w a1 a2 nl ln E) (hb : Below w.heap.size w w') : In2 w' a1 a2 nl ln E := by
  rcases h with h | ⟨b1, b2, A1, A2, h1, h2, h3, h4, h5⟩
  · exact .inl h
  · exact .inr ⟨b1, b2, A1, A2, h1, h2, row_all hb h3, row_all hb h4, fun a ha => (h5 a ha).mono hb⟩

end Go.Proofs.Qxb6605516a
