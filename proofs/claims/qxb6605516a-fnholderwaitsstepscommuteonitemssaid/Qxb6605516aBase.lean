import Derived.Test.Qxb6605516aRows
import Derived.Test.Qxb6605516aPlain
import Derived.WalkKit
import Derived.WalkSpells
import Derived.WalkLawsBesides
import Derived.Deep.OwnRows
import Derived.Deep.Draws
namespace Go.Proofs.Qxb6605516a
open Go.RowKit Go.Deep

theorem info21 : (Try.prog.info? 21).map (fun i => (i.zero, i.size, i.bytes)) = some (some (.int .i32 0), 1, 4) := by kernel_rfl
theorem info62 : (Try.prog.info? 62).map (fun i => (i.zero, i.size, i.bytes)) = some (some (.agg #[.int .i32 0, .int .i32 0, .int .i32 0]), 3, 12) := by kernel_rfl
theorem info66 : (Try.prog.info? 66).map (fun i => (i.zero, i.size, i.bytes)) = some (some (.agg #[.int .i32 0, .int .i32 0]), 2, 8) := by kernel_rfl
theorem info64 : (Try.prog.info? 64).map (fun i => (i.zero, i.size, i.bytes)) = some (some (.slice none 0 0), 1, 24) := by kernel_rfl
theorem info35 : (Try.prog.info? 35).map (fun i => (i.zero, i.size, i.bytes)) = some (some (.slice none 0 0), 1, 24) := by kernel_rfl
theorem info106 : (Try.prog.info? 106).map (fun i => (i.zero, i.size, i.bytes)) = some (some (.agg #[.int .i32 0, .int .i32 0, .int .i32 0]), 3, 12) := by kernel_rfl
theorem info107 : (Try.prog.info? 107).map (fun i => (i.zero, i.size, i.bytes)) = some (some (.slice none 0 0), 1, 24) := by kernel_rfl
theorem info109 : (Try.prog.info? 109).map (fun i => (i.zero, i.size, i.bytes)) = some (some (.agg #[.int .i32 0, .int .i32 0]), 2, 8) := by kernel_rfl
theorem info2 : (Try.prog.info? 2).map (fun i => (i.zero, i.size, i.bytes)) = some (some (.int .i64 0), 1, 8) := by kernel_rfl

/-- 'make([]T, n)', T a struct of 'size' int32 fields, of whatever n: a new row of zeros, told cell by cell. -/
theorem run_make_ints {P : Program} (t e : TypeId) (size bytes : Nat) (z : Value) (ht : P.underlying t = some (.slice e))
    (hinfo : (P.info? e).map (fun i => (i.zero, i.size, i.bytes)) = some (some z, size, bytes)) (hz : z.cells = Array.replicate size (.int .i32 0)) (hs : 0 < size)
    (n : Nat) (hbytes : bytes * n ≤ 281474976710656) (h63 : n ≤ 9223372036854775807) (w : World) :
    ∃ c : Array Value, (Instr.makeSlice t (.int .i64 (n : Int)) (.int .i64 (n : Int))).run P w = .ok (.slice (some ⟨w.heap.size, 0, none⟩) n n) (w.alloc (.cells c e)) ∧ c.size = n * size ∧ ∀ i, i < n * size → c[i]? = some (.int .i32 0) := by
  obtain ⟨i, hi, hzz⟩ := Option.map_eq_some_iff.1 hinfo
  simp only [Prod.mk.injEq] at hzz
  obtain ⟨hz0, hs0, hb0⟩ := hzz
  have hb' : (i.bytes : Int) * (n : Int) ≤ 281474976710656 := by
    have h : ((i.bytes * n : Nat) : Int) ≤ 281474976710656 := by rw [hb0]; omega
    rwa [Int.natCast_mul] at h
  have hr := run_make (P := P) w t e i z ht hi hz0 .i64 .i64 n n (by omega) (Int.le_refl _) hb' (by omega)
  simp only [Int.toNat_natCast, hs0, hz] at hr
  refine ⟨_, hr, size_madeCells _ _, fun j hj => ?_⟩
  have : j % size < size := Nat.mod_lt _ hs
  simp [madeCells, hj, this]

/-! ### Rows of structs of int32 fields -/
open Pl (I3 E2 upd upd_same upd_other)

/-- A row of items, cell by cell. -/
def icell (it : Nat → I3) (j : Nat) : Value := if j % 3 = 0 then .int .i32 (it (j / 3)).1 else if j % 3 = 1 then .int .i32 (it (j / 3)).2.1 else .int .i32 (it (j / 3)).2.2
/-- A row of entries, cell by cell. -/
def ecell (E : Nat → E2) (j : Nat) : Value := if j % 2 = 0 then .int .i32 (E (j / 2)).1 else .int .i32 (E (j / 2)).2

theorem icell0 (it : Nat → I3) (k : Nat) : icell it (k * 3) = .int .i32 (it k).1 := by
  unfold icell; rw [if_pos (by omega), show k * 3 / 3 = k by omega]
theorem icell1 (it : Nat → I3) (k : Nat) : icell it (k * 3 + 1) = .int .i32 (it k).2.1 := by
  unfold icell; rw [if_neg (by omega), if_pos (by omega), show (k * 3 + 1) / 3 = k by omega]
theorem icell2 (it : Nat → I3) (k : Nat) : icell it (k * 3 + 2) = .int .i32 (it k).2.2 := by
  unfold icell; rw [if_neg (by omega), if_neg (by omega), show (k * 3 + 2) / 3 = k by omega]
theorem ecell0 (E : Nat → E2) (k : Nat) : ecell E (k * 2) = .int .i32 (E k).1 := by
  unfold ecell; rw [if_pos (by omega), show k * 2 / 2 = k by omega]
theorem ecell1 (E : Nat → E2) (k : Nat) : ecell E (k * 2 + 1) = .int .i32 (E k).2 := by
  unfold ecell; rw [if_neg (by omega), show (k * 2 + 1) / 2 = k by omega]

theorem icell_upd (it : Nat → I3) (k j : Nat) (v : I3) : icell (upd it k v) j = if j = k * 3 then .int .i32 v.1 else if j = k * 3 + 1 then .int .i32 v.2.1 else if j = k * 3 + 2 then .int .i32 v.2.2 else icell it j := by
  by_cases e : j / 3 = k
  · unfold icell upd
    rw [if_pos e]
    by_cases e0 : j % 3 = 0
    · rw [if_pos e0, if_pos (by omega)]
    · by_cases e1 : j % 3 = 1
      · rw [if_neg e0, if_pos e1, if_neg (by omega), if_pos (by omega)]
      · rw [if_neg e0, if_neg e1, if_neg (by omega), if_neg (by omega), if_pos (by omega)]
  · rw [if_neg (by omega), if_neg (by omega), if_neg (by omega)]
    unfold icell upd
    rw [if_neg e]

theorem ecell_upd (E : Nat → E2) (k j : Nat) (v : E2) : ecell (upd E k v) j = if j = k * 2 then .int .i32 v.1 else if j = k * 2 + 1 then .int .i32 v.2 else ecell E j := by
  by_cases e : j / 2 = k
  · unfold ecell upd
    rw [if_pos e]
    by_cases e0 : j % 2 = 0
    · rw [if_pos e0, if_pos (by omega)]
    · rw [if_neg e0, if_neg (by omega), if_pos (by omega)]
  · rw [if_neg (by omega), if_neg (by omega)]
    unfold ecell upd
    rw [if_neg e]

section
variable {w : World} {B n : Nat} {t : TypeId} {it : Nat → I3} {E : Nat → E2}

theorem iget (h : w.rowIs B t (n * 3) (icell it)) {k : Nat} (hk : k < n) :
    w.cell? ⟨B, k * 3, none⟩ = some (.int .i32 (it k).1) ∧ w.cell? ⟨B, k * 3 + 1, none⟩ = some (.int .i32 (it k).2.1) ∧ w.cell? ⟨B, k * 3 + 2, none⟩ = some (.int .i32 (it k).2.2) :=
  ⟨by rw [h.cell (by omega), icell0], by rw [h.cell (by omega), icell1], by rw [h.cell (by omega), icell2]⟩

theorem eget (h : w.rowIs B t (n * 2) (ecell E)) {k : Nat} (hk : k < n) :
    w.cell? ⟨B, k * 2, none⟩ = some (.int .i32 (E k).1) ∧ w.cell? ⟨B, k * 2 + 1, none⟩ = some (.int .i32 (E k).2) :=
  ⟨by rw [h.cell (by omega), ecell0], by rw [h.cell (by omega), ecell1]⟩

theorem iset3 {N : Nat} (h : w.rowIs B t N (icell it)) (k : Nat) (v : I3) :
    (((w.setCell ⟨B, k * 3, none⟩ (.int .i32 v.1)).setCell ⟨B, k * 3 + 1, none⟩ (.int .i32 v.2.1)).setCell ⟨B, k * 3 + 2, none⟩ (.int .i32 v.2.2)).rowIs B t N (icell (upd it k v)) := by
  refine (((h.set _ _).set _ _).set _ _).congr fun j _ => ?_
  rw [icell_upd]
  by_cases e2 : j = k * 3 + 2
  · rw [if_pos e2, if_neg (by omega), if_neg (by omega), if_pos e2]
  · rw [if_neg e2, if_neg e2]
    by_cases e1 : j = k * 3 + 1
    · rw [if_pos e1, if_neg (by omega), if_pos e1]
    · rw [if_neg e1, if_neg e1]

theorem iset12 {N : Nat} (h : w.rowIs B t N (icell it)) (k : Nat) (x s : Int) :
    ((w.setCell ⟨B, k * 3 + 1, none⟩ (.int .i32 x)).setCell ⟨B, k * 3 + 2, none⟩ (.int .i32 s)).rowIs B t N (icell (upd it k ((it k).1, x, s))) := by
  refine ((h.set _ _).set _ _).congr fun j _ => ?_
  rw [icell_upd]
  by_cases e0 : j = k * 3
  · rw [if_neg (by omega), if_neg (by omega), if_pos e0, e0, icell0]
  · rw [if_neg e0]
    by_cases e2 : j = k * 3 + 2
    · rw [if_pos e2, if_neg (by omega), if_pos e2]
    · rw [if_neg e2, if_neg e2]

theorem eset2 {N : Nat} (h : w.rowIs B t N (ecell E)) (k : Nat) (v : E2) :
    ((w.setCell ⟨B, k * 2, none⟩ (.int .i32 v.1)).setCell ⟨B, k * 2 + 1, none⟩ (.int .i32 v.2)).rowIs B t N (ecell (upd E k v)) := by
  refine ((h.set _ _).set _ _).congr fun j _ => ?_
  rw [ecell_upd]
  by_cases e1 : j = k * 2 + 1
  · rw [if_pos e1, if_neg (by omega), if_pos e1]
  · rw [if_neg e1, if_neg e1]

theorem row_ne {f g : Nat → Value} {b b' n n' : Nat} {t t' : TypeId} (h : w.rowIs b t n f) (h' : w.rowIs b' t' n' g) (ht : t ≠ t') : b ≠ b' := by
  rintro rfl
  obtain ⟨c, hc, _⟩ := h
  obtain ⟨c', hc', _⟩ := h'
  rw [hc] at hc'
  simp only [Option.some.injEq, Obj.cells.injEq] at hc'
  exact ht hc'.2.1
end

/-- A row as it was, where its block is as it was. -/
theorem row_below {B : Nat} {w w' : World} (hb : Below B w w') {b n : Nat} {t : TypeId} {f : Nat → Value} (h : w.rowIs b t n f) (hlt : b < B) : w'.rowIs b t n f := h.of_block (hb.block b hlt)
theorem row_all {w w' : World} (hb : Below w.heap.size w w') {b n : Nat} {t : TypeId} {f : Nat → Value} (h : w.rowIs b t n f) : w'.rowIs b t n f := row_below hb h h.lt

/-! ### What turns: the blocks of Z, and new ones -/
structure Chg (Z : Nat → Prop) (w w' : World) : Prop where
  os : w'.os = w.os
  tape : w'.tape = w.tape
  output : w'.output = w.output
  size : w.heap.size ≤ w'.heap.size
  block : ∀ k, k < w.heap.size → ¬ Z k → w'.heap[k]? = w.heap[k]?

namespace Chg
variable {Z : Nat → Prop} {w w' w'' : World}
theorem refl (Z : Nat → Prop) (w : World) : Chg Z w w := ⟨rfl, rfl, rfl, Nat.le_refl _, fun _ _ _ => rfl⟩
theorem trans (h : Chg Z w w') (k : Chg Z w' w'') : Chg Z w w'' :=
  ⟨k.os.trans h.os, k.tape.trans h.tape, k.output.trans h.output, Nat.le_trans h.size k.size, fun i hi hz => (k.block i (Nat.lt_of_lt_of_le hi h.size) hz).trans (h.block i hi hz)⟩
theorem alloc (h : Chg Z w w') (o : Obj) : Chg Z w (w'.alloc o) :=
  h.trans ⟨rfl, rfl, rfl, by simp, fun k hk _ => Below.heap_alloc _ _ _ hk⟩
theorem drewN (h : Chg Z w w') (n : Nat) : Chg Z w (w'.drewN n) := ⟨h.os, h.tape, h.output, h.size, h.block⟩
theorem setCell (h : Chg Z w w') {p : Addr} (hp : Z p.block ∨ w.heap.size ≤ p.block) (u : Value) : Chg Z w (w'.setCell p u) := by
  refine ⟨h.os, h.tape, h.output, by simpa [World.setCell] using h.size, fun k hk hz => ?_⟩
  have hne : k ≠ p.block := by
    rintro rfl
    rcases hp with hp | hp
    · exact hz hp
    · omega
  rw [Below.heap_setCell _ _ _ _ hne]
  exact h.block k hk hz
theorem row (h : Chg Z w w') {b n : Nat} {t : TypeId} {f : Nat → Value} (hr : w.rowIs b t n f) (hz : ¬ Z b) : w'.rowIs b t n f := hr.of_block (h.block b hr.lt hz)
theorem below (h : Chg Z w w') {B : Nat} (hZ : ∀ k, Z k → B ≤ k) (hB : B ≤ w.heap.size) : Below B w w' :=
  ⟨h.os, h.tape, h.output, h.size, fun k hk => h.block k (by omega) (fun hz => by have := hZ k hz; omega)⟩
theorem ofBelow (h : Below w.heap.size w w') : Chg Z w w' := ⟨h.os, h.tape, h.output, h.size, fun k hk _ => h.block k hk⟩
end Chg

/-! ### Views of what came in, and of what the call has made -/

/-- The elements of a slice of items. -/
def ViewI (w : World) (a : Option Addr) (n : Nat) (it : Nat → I3) : Prop :=
  n = 0 ∨ ∃ b off, a = some ⟨b, off, none⟩ ∧ b < w.heap.size ∧ ∀ j, j < n → w.cell? ⟨b, off + j * 3, none⟩ = some (.int .i32 (it j).1) ∧ w.cell? ⟨b, off + j * 3 + 1, none⟩ = some (.int .i32 (it j).2.1) ∧ w.cell? ⟨b, off + j * 3 + 2, none⟩ = some (.int .i32 (it j).2.2)
/-- The elements of a slice of entries. -/
def ViewE (w : World) (a : Option Addr) (n : Nat) (E : Nat → E2) : Prop :=
  n = 0 ∨ ∃ b off, a = some ⟨b, off, none⟩ ∧ b < w.heap.size ∧ ∀ j, j < n → w.cell? ⟨b, off + j * 2, none⟩ = some (.int .i32 (E j).1) ∧ w.cell? ⟨b, off + j * 2 + 1, none⟩ = some (.int .i32 (E j).2)
/-- The elements of a slice of int32. -/
def ViewN (w : World) (a : Option Addr) (n : Nat) (f : Nat → Int) : Prop :=
  n = 0 ∨ ∃ b off, a = some ⟨b, off, none⟩ ∧ b < w.heap.size ∧ ∀ j, j < n → w.cell? ⟨b, off + j, none⟩ = some (.int .i32 (f j))
/-- The elements of a slice of slices of entries. -/
def ViewL (w : World) (a : Option Addr) (n : Nat) (A : Nat → Option Addr) (ln cp : Nat → Nat) (E : Nat → Nat → E2) : Prop :=
  n = 0 ∨ ∃ b off, a = some ⟨b, off, none⟩ ∧ b < w.heap.size ∧ ∀ j, j < n → w.cell? ⟨b, off + j, none⟩ = some (.slice (A j) (ln j) (cp j)) ∧ ViewE w (A j) (ln j) (E j)

/-- A slice of items that the call has made: nil, or a row of its own from block 'lo' on. -/
def OwnI (w : World) (t : TypeId) (lo : Nat) (a : Option Addr) (n : Nat) (it : Nat → I3) : Prop :=
  (a = none ∧ n = 0) ∨ ∃ b, a = some ⟨b, 0, none⟩ ∧ lo ≤ b ∧ w.rowIs b t (n * 3) (icell it)
def OwnN (w : World) (lo : Nat) (a : Option Addr) (n : Nat) (f : Nat → Int) : Prop :=
  (a = none ∧ n = 0) ∨ ∃ b, a = some ⟨b, 0, none⟩ ∧ lo ≤ b ∧ w.rowIs b 21 n (fun j => .int .i32 (f j))
/-- A slice of entries that the call has made. -/
def OwnE (w : World) (t : TypeId) (lo : Nat) (a : Option Addr) (n c : Nat) (E : Nat → E2) : Prop :=
  (a = none ∧ n = 0 ∧ c = 0) ∨ ∃ b, a = some ⟨b, 0, none⟩ ∧ lo ≤ b ∧ n ≤ c ∧ w.rowIs b t (c * 2) (ecell E)
/-- A slice of slices of entries that the call has made. -/
def OwnL (w : World) (t te : TypeId) (lo : Nat) (a : Option Addr) (n : Nat) (A : Nat → Option Addr) (ln cp : Nat → Nat) (E : Nat → Nat → E2) : Prop :=
  (a = none ∧ n = 0) ∨ ∃ b, a = some ⟨b, 0, none⟩ ∧ lo ≤ b ∧ w.rowIs b t n (fun j => .slice (A j) (ln j) (cp j)) ∧ ∀ j, j < n → OwnE w te lo (A j) (ln j) (cp j) (E j)

theorem OwnE.mono {w w' : World} {t : TypeId} {lo : Nat} {a : Option Addr} {n c : Nat} {E : Nat → E2} (h : OwnE w t lo a n c E) (hb : Below w.heap.size w w') : OwnE w' t lo a n c E := by
  rcases h with h | ⟨b, h1, h2, h3, h4⟩
  · exact .inl h
  · exact .inr ⟨b, h1, h2, h3, row_all hb h4⟩
theorem OwnI.mono {w w' : World} {t : TypeId} {lo : Nat} {a : Option Addr} {n : Nat} {it : Nat → I3} (h : OwnI w t lo a n it) (hb : Below w.heap.size w w') : OwnI w' t lo a n it := by
  rcases h with h | ⟨b, h1, h2, h3⟩
  · exact .inl h
  · exact .inr ⟨b, h1, h2, row_all hb h3⟩
theorem OwnN.mono {w w' : World} {lo : Nat} {a : Option Addr} {n : Nat} {f : Nat → Int} (h : OwnN w lo a n f) (hb : Below w.heap.size w w') : OwnN w' lo a n f := by
  rcases h with h | ⟨b, h1, h2, h3⟩
  · exact .inl h
  · exact .inr ⟨b, h1, h2, row_all hb h3⟩
theorem OwnL.mono {w w' : World} {t te : TypeId} {lo : Nat} {a : Option Addr} {n : Nat} {A : Nat → Option Addr} {ln cp : Nat → Nat} {E : Nat → Nat → E2} (h : OwnL w t te lo a n A ln cp E) (hb : Below w.heap.size w w') : OwnL w' t te lo a n A ln cp E := by
  rcases h with h | ⟨b, h1, h2, h3, h4⟩
  · exact .inl h
  · exact .inr ⟨b, h1, h2, row_all hb h3, fun j hj => (h4 j hj).mono hb⟩

/-- It returns a bool; where that is true, T holds. -/
def RetB (e : Ending) (T : Prop) (W : Prop) : Prop := ∃ B, e = .returned (.bool B) ∧ (B = true → T) ∧ W
/-- It returns an int; where that is within the bound, T holds. -/
def RetI (e : Ending) (T : Prop) (W : Prop) : Prop := ∃ x, e = .returned (.int .i64 x) ∧ (x ≤ 1048576 → T) ∧ W

end Go.Proofs.Qxb6605516a
