import Derived.Test.Qxb6605516aBase
namespace Go.Proofs.Qxb6605516a
open Go.RowKit Go.Deep
open Pl (I3 E2 upd upd_same upd_other)

/-- The first k as f has them, the others z. -/
def upto {α : Type} (k : Nat) (f : Nat → α) (z : α) : Nat → α := fun j => if j < k then f j else z
theorem upto_zero {α : Type} (f : Nat → α) (z : α) : upto 0 f z = fun _ => z := by funext j; simp [upto]
theorem upto_succ {α : Type} (k : Nat) (f : Nat → α) (z : α) : upd (upto k f z) k (f k) = upto (k + 1) f z := by
  funext j
  unfold upd upto
  by_cases e : j = k
  · subst e; rw [if_pos rfl, if_pos (by omega)]
  · rw [if_neg e]
    by_cases l : j < k
    · rw [if_pos l, if_pos (by omega)]
    · rw [if_neg l, if_neg (by omega)]
theorem upto_lt {α : Type} (k : Nat) (f : Nat → α) (z : α) (j : Nat) (h : j < k) : upto k f z j = f j := if_pos h

theorem icell_congr {n : Nat} {it it' : Nat → I3} (h : ∀ x, x < n → it x = it' x) : ∀ j, j < n * 3 → icell it j = icell it' j := fun j hj => by
  unfold icell; rw [h (j / 3) (by omega)]
theorem ecell_congr {n : Nat} {E E' : Nat → E2} (h : ∀ x, x < n → E x = E' x) : ∀ j, j < n * 2 → ecell E j = ecell E' j := fun j hj => by
  unfold ecell; rw [h (j / 2) (by omega)]
theorem icell_zero (j : Nat) : icell (fun _ => (0, 0, 0)) j = .int .i32 0 := by unfold icell; split <;> first | rfl | (split <;> rfl)
theorem ecell_zero (j : Nat) : ecell (fun _ => (0, 0)) j = .int .i32 0 := by unfold ecell; split <;> rfl

/-- A new row of zeros, as items, as entries. -/
theorem row_items {w : World} {C : Array Value} {n : Nat} {t : TypeId} (h1 : C.size = n * 3) (h2 : ∀ i, i < n * 3 → C[i]? = some (.int .i32 0)) (it : Nat → I3) : (w.alloc (.cells C t)).rowIs w.heap.size t (n * 3) (icell (upto 0 it (0, 0, 0))) := by
  rw [upto_zero]
  have := World.rowIs_alloc w C t (icell fun _ => (0, 0, 0)) (fun i hi => by rw [icell_zero]; exact h2 i (by omega))
  rwa [h1] at this
theorem row_entries {w : World} {C : Array Value} {n : Nat} {t : TypeId} (h1 : C.size = n * 2) (h2 : ∀ i, i < n * 2 → C[i]? = some (.int .i32 0)) (E : Nat → E2) : (w.alloc (.cells C t)).rowIs w.heap.size t (n * 2) (ecell (upto 0 E (0, 0))) := by
  rw [upto_zero]
  have := World.rowIs_alloc w C t (ecell fun _ => (0, 0)) (fun i hi => by rw [ecell_zero]; exact h2 i (by omega))
  rwa [h1] at this

/-! ### cloneI32 -/
theorem cloneN_nil (w : World) : Calls Try.prog 25 #[.slice none 0 0] w fun e w' => e = .returned (.slice none 0 0) ∧ w' = w := by
  have hq := fun (w : World) (a : Option Addr) (n c : Nat) => Lib.run_eql_slice_nil (P := Try.prog) w 35 21 a n c 0 0 Try.underlying35
  go_enter Try.func25, Try.ntmps25
  go_wp2
  go_ret
  exact ⟨rfl, rfl⟩

def ncell (f : Nat → Int) (j : Nat) : Value := .int .i32 (f j)

theorem nset {w : World} {B n k : Nat} {t : TypeId} {f : Nat → Int} (h : w.rowIs B t n (ncell (upto k f 0))) : (w.setCell ⟨B, k, none⟩ (.int .i32 (f k))).rowIs B t n (ncell (upto (k + 1) f 0)) :=
  (h.set k _).congr fun j _ => by
    unfold ncell
    rw [← upto_succ]
    unfold upd
    split <;> rfl

set_option maxHeartbeats 400000 in
set_option maxRecDepth 100000 in
theorem cloneN_some (b off n c : Nat) (f : Nat → Int) (w : World) (hn : n ≤ 65536) (hbw : b < w.heap.size) (hc : ∀ j, j < n → w.cell? ⟨b, off + j, none⟩ = some (.int .i32 (f j))) :
    Calls Try.prog 25 #[.slice (some ⟨b, off, none⟩) n c] w fun e w' => e = .returned (.slice (some ⟨w.heap.size, 0, none⟩) n n) ∧ w'.rowIs w.heap.size 21 n (ncell f) ∧ Below w.heap.size w w' := by
  have hmk := run_make_row' (P := Try.prog) 35 21 (.int .i32 0) 4 Try.underlying35 info21 rfl .i64 .i64 n (by omega) (by omega)
  have hq := fun (w : World) (a : Option Addr) (n c : Nat) => Lib.run_eql_slice_nil (P := Try.prog) w 35 21 a n c 0 0 Try.underlying35
  have hr0 : (w.alloc (.cells (madeCells #[.int .i32 0] n) 21)).rowIs w.heap.size 21 n (ncell (upto 0 f 0)) := (World.rowIs_made _ _ _ _).congr fun i _ => by simp [ncell, upto]
  go_enter Try.func25, Try.ntmps25
  go_wp2
  go_loopw [4] (fun i wr => ∃ k : Nat, k ≤ n ∧ i = .int .i64 k ∧ wr.rowIs w.heap.size 21 n (ncell (upto k f 0)) ∧ Below w.heap.size w wr) (fun i _ => n - (intOf i).toNat)
  case atStart => exact ⟨0, Nat.zero_le _, rfl, hr0, (Below.refl _ _).alloc (Nat.le_refl _) _⟩
  case round =>
    obtain ⟨k, hk, rfl, hrow, hbel⟩ := hrel
    clear hr0 hmk hq
    by_cases hlt : k < n
    · have ck : wr.cell? ⟨b, off + k, none⟩ = some (.int .i32 (f k)) := (hbel.cell (p := ⟨b, off + k, none⟩) hbw).trans (hc k hlt)
      have R := nset hrow
      have fz := hrow.frozen k
      have cz := hrow.cell hlt
      obtain ⟨vz, hvz⟩ : ∃ vz, ncell (upto k f 0) k = vz := ⟨_, rfl⟩
      rw [hvz] at cz
      clear hvz hc hrow
      go_wp2
      go_roundw
      case rel => exact ⟨k + 1, by omega, by go_num, R, hbel.setCell (p := ⟨w.heap.size, k, none⟩) (Nat.le_refl _) _⟩
      case measure => simp [intOf]; omega
    · clear hc
      go_wp2
      go_ret
      exact ⟨rfl, hrow.congr fun i hi => by unfold ncell; rw [upto_lt _ _ _ _ (by omega)], hbel⟩

/-! ### cloneSharers -/
theorem cloneI_nil (w : World) : Calls Try.prog 23 #[.slice none 0 0] w fun e w' => e = .returned (.slice none 0 0) ∧ w' = w := by
  have hq := fun (w : World) (a : Option Addr) (n c : Nat) => Lib.run_eql_slice_nil (P := Try.prog) w 44 62 a n c 0 0 Try.underlying44
  go_enter Try.func23, Try.ntmps23
  go_wp2
  go_ret
  exact ⟨rfl, rfl⟩

/-- A slice that is not nil and has no element: a new row without cells. -/
theorem cloneI_empty (a : Addr) (c : Nat) (it : Nat → I3) (w : World) :
    Calls Try.prog 23 #[.slice (some a) 0 c] w fun e w' => e = .returned (.slice (some ⟨w.heap.size, 0, none⟩) 0 0) ∧ w'.rowIs w.heap.size 62 (0 * 3) (icell it) ∧ Below w.heap.size w w' := by
  obtain ⟨C, hmk, hC1, hC2⟩ := run_make_ints (P := Try.prog) 44 62 3 12 _ Try.underlying44 info62 rfl (by decide) 0 (by omega) (by omega) w
  have hq := fun (w : World) (a : Option Addr) (n c : Nat) => Lib.run_eql_slice_nil (P := Try.prog) w 44 62 a n c 0 0 Try.underlying44
  have hr0 := row_items (w := w) (t := 62) hC1 hC2 it
  simp only [Int.natCast_zero] at hmk
  have HR : Hid ((w.alloc (.cells C 62)).rowIs w.heap.size 62 (0 * 3) (icell it)) := hr0.congr fun j hj => absurd hj (by omega)
  clear hC1 hC2 hr0
  go_enter Try.func23, Try.ntmps23
  go_wp2
  go_loop [4] (fun i => i = .int .i64 0) (fun _ => 0)
  case atStart => rfl
  case round =>
    obtain rfl := hrel
    clear hmk hq
    go_wp2
    go_ret
    exact ⟨rfl, HR.out, (Below.refl _ _).alloc (Nat.le_refl _) _⟩

set_option maxHeartbeats 400000 in
set_option maxRecDepth 100000 in
theorem cloneI_some (b off n c : Nat) (it : Nat → I3) (w : World) (hn : n ≤ 65536) (hbw : b < w.heap.size)
    (hc : ∀ j, j < n → w.cell? ⟨b, off + j * 3, none⟩ = some (.int .i32 (it j).1) ∧ w.cell? ⟨b, off + j * 3 + 1, none⟩ = some (.int .i32 (it j).2.1) ∧ w.cell? ⟨b, off + j * 3 + 2, none⟩ = some (.int .i32 (it j).2.2)) :
    Calls Try.prog 23 #[.slice (some ⟨b, off, none⟩) n c] w fun e w' => e = .returned (.slice (some ⟨w.heap.size, 0, none⟩) n n) ∧ w'.rowIs w.heap.size 62 (n * 3) (icell it) ∧ Below w.heap.size w w' := by
  obtain ⟨C, hmk, hC1, hC2⟩ := run_make_ints (P := Try.prog) 44 62 3 12 _ Try.underlying44 info62 rfl (by decide) n (by omega) (by omega) w
  have hq := fun (w : World) (a : Option Addr) (n c : Nat) => Lib.run_eql_slice_nil (P := Try.prog) w 44 62 a n c 0 0 Try.underlying44
  have hr0 := row_items (w := w) (t := 62) hC1 hC2 it
  clear hC1 hC2
  go_enter Try.func23, Try.ntmps23
  go_wp2
  go_loopw [4] (fun i wr => ∃ k : Nat, k ≤ n ∧ i = .int .i64 k ∧ wr.rowIs w.heap.size 62 (n * 3) (icell (upto k it (0, 0, 0))) ∧ Below w.heap.size w wr) (fun i _ => n - (intOf i).toNat)
  case atStart => exact ⟨0, Nat.zero_le _, rfl, hr0, (Below.refl _ _).alloc (Nat.le_refl _) _⟩
  case round =>
    obtain ⟨k, hk, rfl, hrow, hbel⟩ := hrel
    clear hr0 hmk hq
    by_cases hlt : k < n
    · obtain ⟨c0, c1, c2⟩ := hc k hlt
      rw [← hbel.cell (p := ⟨b, _, none⟩) hbw] at c0 c1 c2
      have R := iset3 hrow k (it k)
      rw [upto_succ] at R
      obtain ⟨z0, z1, z2⟩ := iget hrow hlt
      have f0 := hrow.frozen (k * 3)
      have f1 := hrow.frozen (k * 3 + 1)
      have f2 := hrow.frozen (k * 3 + 2)
      obtain ⟨q0, hq0⟩ : ∃ q, (upto k it (0, 0, 0) k).1 = q := ⟨_, rfl⟩
      obtain ⟨q1, hq1⟩ : ∃ q, (upto k it (0, 0, 0) k).2.1 = q := ⟨_, rfl⟩
      obtain ⟨q2, hq2⟩ : ∃ q, (upto k it (0, 0, 0) k).2.2 = q := ⟨_, rfl⟩
      rw [hq0] at z0
      rw [hq1] at z1
      rw [hq2] at z2
      clear hq0 hq1 hq2 hc hrow
      go_wp2
      go_roundw
      case rel => exact ⟨k + 1, by omega, by go_num, R, ((hbel.setCell (p := ⟨w.heap.size, _, none⟩) (Nat.le_refl _) _).setCell (p := ⟨w.heap.size, _, none⟩) (Nat.le_refl _) _).setCell (p := ⟨w.heap.size, _, none⟩) (Nat.le_refl _) _⟩
      case measure => simp [intOf]; omega
    · clear hc
      go_wp2
      go_ret
      exact ⟨rfl, hrow.congr (icell_congr fun x hx => upto_lt _ _ _ _ (by omega)), hbel⟩

/-- EVERY SLICE OF ITEMS: its clone. -/
theorem cloneI_any (a : Option Addr) (n c : Nat) (it : Nat → I3) (w : World) (hn : n ≤ 65536) (hc0 : a = none → n = 0 ∧ c = 0) (hv : ViewI w a n it) :
    Calls Try.prog 23 #[.slice a n c] w fun e w' => ∃ a', e = .returned (.slice a' n n) ∧ OwnI w' 62 w.heap.size a' n it ∧ Below w.heap.size w w' := by
  cases a with
  | none =>
    obtain ⟨rfl, rfl⟩ := hc0 rfl
    refine (cloneI_nil w).mono ?_
    rintro e w' ⟨rfl, rfl⟩
    exact ⟨none, rfl, .inl ⟨rfl, rfl⟩, Below.refl _ _⟩
  | some ad =>
    rcases hv with rfl | ⟨b, off, he, hbw, hc⟩
    · refine (cloneI_empty ad c it w).mono ?_
      rintro e w' ⟨rfl, h2, h3⟩
      exact ⟨_, rfl, .inr ⟨_, rfl, Nat.le_refl _, h2⟩, h3⟩
    · rw [he]
      refine (cloneI_some b off n c it w hn hbw hc).mono ?_
      rintro e w' ⟨rfl, h2, h3⟩
      exact ⟨_, rfl, .inr ⟨_, rfl, Nat.le_refl _, h2⟩, h3⟩

end Go.Proofs.Qxb6605516a
