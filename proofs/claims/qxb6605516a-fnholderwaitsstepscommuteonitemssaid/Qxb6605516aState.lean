import Derived.Test.Qxb6605516aHolder
import Derived.Deep.QuietTactic
import Derived.BigQuiet
namespace Go.Proofs.Qxb6605516a
open Go.RowKit Go.Deep
open Pl (I3 E2 Ls upd upd_same upd_other)

/-- The ten results of ZZHolderWaitsState; of the lists nothing is told. -/
def State10 (e : Ending) (a1 a2 a3 : Option Addr) (n : Nat) (vo : Value) : Prop :=
  ∃ v5 v6, e = .returned (.tuple #[.int .i32 0, .int .i32 0, .slice a1 n n, .slice a2 n n, .slice a3 n n, v5, v6, vo, .slice none 0 0, .int .i32 0])

set_option maxHeartbeats 2000000 in
set_option maxRecDepth 100000 in
theorem st_nn (hb bo nn : Nat) (it : Nat → I3) (w : World) (hh : w.rowIs hb 104 7 (hcell (.slice none 0 0) (.slice none 0 0) (.slice (some ⟨bo, 0, none⟩) nn nn))) :
    Calls Try.prog 28 #[.pointer (some ⟨hb, 0, none⟩)] w fun e w' => ∃ a1 a2 a3, State10 e a1 a2 a3 0 (.slice (some ⟨bo, 0, none⟩) nn nn) ∧ In3 w' a1 a2 a3 0 it ∧ Below w.heap.size w w' := by
  have k2 : w.cell? ⟨hb, 2, none⟩ = some (.slice none 0 0) := hh.cell (by decide)
  have k3 : w.cell? ⟨hb, 3, none⟩ = some (.slice none 0 0) := hh.cell (by decide)
  have hhlt := hh.lt
  go_enter Try.func28, Try.ntmps28
  have hbelW : Below w.heap.size w w := Below.refl _ _
  have hI3 : In3 w none none none 0 it := .inl ⟨rfl, rfl, rfl, rfl⟩
  have hhW := row_below hbelW hh hhlt
  have g0 : (w).cell? ⟨hb, 0, none⟩ = some (.int .i32 0) := hhW.cell (by decide)
  have g1 : (w).cell? ⟨hb, 1, none⟩ = some (.int .i32 0) := hhW.cell (by decide)
  have g3 : (w).cell? ⟨hb, 3, none⟩ = some (.slice none 0 0) := hhW.cell (by decide)
  have g4 : (w).cell? ⟨hb, 4, none⟩ = some (.slice (some ⟨bo, 0, none⟩) nn nn) := hhW.cell (by decide)
  have g5 : (w).cell? ⟨hb, 5, none⟩ = some (.slice none 0 0) := hhW.cell (by decide)
  have g6 : (w).cell? ⟨hb, 6, none⟩ = some (.int .i32 0) := hhW.cell (by decide)
  have HF : Hid (In3 (w) none none none 0 it ∧ Below w.heap.size w (w)) := ⟨hI3, hbelW⟩
  clear hhW hI3 hbelW hh
  go_wp2
  go_quiet (fail)
  go_wp2
  refine bodyPost_ret (v := .tuple #[.int .i32 0, .int .i32 0, .slice none 0 0, .slice none 0 0, .slice none 0 0, .slice none 0 0, .slice none 0 0, (.slice (some ⟨bo, 0, none⟩) nn nn), .slice none 0 0, .int .i32 0]) (by simp [results, Try.results28]) rfl ?_
  exact ⟨_, _, _, ⟨_, _, rfl⟩, HF.out.1, below_drewN HF.out.2 _⟩

set_option maxHeartbeats 2000000 in
set_option maxRecDepth 100000 in
theorem st_sn (hb bo nn : Nat) (it : Nat → I3) (bi n : Nat) (w : World) (hh : w.rowIs hb 104 7 (hcell (.slice (some ⟨bi, 0, none⟩) n n) (.slice none 0 0) (.slice (some ⟨bo, 0, none⟩) nn nn))) (hn : n ≤ 65536) (ri : w.rowIs bi 106 (n * 3) (icell it)) :
    Calls Try.prog 28 #[.pointer (some ⟨hb, 0, none⟩)] w fun e w' => ∃ a1 a2 a3, State10 e a1 a2 a3 n (.slice (some ⟨bo, 0, none⟩) nn nn) ∧ In3 w' a1 a2 a3 n it ∧ Below w.heap.size w w' := by
  have k2 : w.cell? ⟨hb, 2, none⟩ = some (.slice (some ⟨bi, 0, none⟩) n n) := hh.cell (by decide)
  have k3 : w.cell? ⟨hb, 3, none⟩ = some (.slice none 0 0) := hh.cell (by decide)
  have hhlt := hh.lt
  have hmk := run_make_row' (P := Try.prog) 35 21 (.int .i32 0) 4 Try.underlying35 info21 rfl .i64 .i64 n (by omega) (by omega)
  have s1 : (((w.alloc (.cells (madeCells #[.int .i32 0] n) 21)).alloc (.cells (madeCells #[.int .i32 0] n) 21)).alloc (.cells (madeCells #[.int .i32 0] n) 21)).rowIs w.heap.size 21 n (ncell (upto 0 (fun j => (it j).1) 0)) := (((World.rowIs_made w (.int .i32 0) n 21).alloc _).alloc _).congr fun i _ => by simp [ncell, upto]
  have s2 : (((w.alloc (.cells (madeCells #[.int .i32 0] n) 21)).alloc (.cells (madeCells #[.int .i32 0] n) 21)).alloc (.cells (madeCells #[.int .i32 0] n) 21)).rowIs (w.heap.size + 1) 21 n (ncell (upto 0 (fun j => (it j).2.1) 0)) := by
    have := (World.rowIs_made (w.alloc (.cells (madeCells #[.int .i32 0] n) 21)) (.int .i32 0) n 21).alloc (.cells (madeCells #[.int .i32 0] n) 21)
    simp only [World.size_alloc] at this
    exact this.congr fun i _ => by simp [ncell, upto]
  have s3 : (((w.alloc (.cells (madeCells #[.int .i32 0] n) 21)).alloc (.cells (madeCells #[.int .i32 0] n) 21)).alloc (.cells (madeCells #[.int .i32 0] n) 21)).rowIs (w.heap.size + 2) 21 n (ncell (upto 0 (fun j => (it j).2.2) 0)) := by
    have := World.rowIs_made ((w.alloc (.cells (madeCells #[.int .i32 0] n) 21)).alloc (.cells (madeCells #[.int .i32 0] n) 21)) (.int .i32 0) n 21
    simp only [World.size_alloc] at this
    exact this.congr fun i _ => by simp [ncell, upto]
  have sb : Below w.heap.size w (((w.alloc (.cells (madeCells #[.int .i32 0] n) 21)).alloc (.cells (madeCells #[.int .i32 0] n) 21)).alloc (.cells (madeCells #[.int .i32 0] n) 21)) := (((Below.refl _ _).alloc (Nat.le_refl _) _).alloc (by simp) _).alloc (by simp; omega) _
  have kA : ∀ o1, (w.alloc o1).cell? ⟨hb, 2, none⟩ = some (.slice (some ⟨bi, 0, none⟩) n n) := fun o1 => (Below.cell (B := w.heap.size) ((Below.refl _ _).alloc (Nat.le_refl _) o1) hhlt).trans k2
  have kB : ∀ o1 o2, ((w.alloc o1).alloc o2).cell? ⟨hb, 2, none⟩ = some (.slice (some ⟨bi, 0, none⟩) n n) := fun o1 o2 => (Below.cell (B := w.heap.size) (((Below.refl _ _).alloc (Nat.le_refl _) o1).alloc (by simp) o2) hhlt).trans k2
  have kC : ∀ o1 o2 o3, (((w.alloc o1).alloc o2).alloc o3).cell? ⟨hb, 2, none⟩ = some (.slice (some ⟨bi, 0, none⟩) n n) := fun o1 o2 o3 => (Below.cell (B := w.heap.size) ((((Below.refl _ _).alloc (Nat.le_refl _) o1).alloc (by simp) o2).alloc (by simp; omega) o3) hhlt).trans k2
  go_enter Try.func28, Try.ntmps28
  go_wp2
  go_loopw [45, 12] (fun i _ wr => ∃ k : Nat, k ≤ n ∧ i = .int .i64 k ∧ wr.rowIs w.heap.size 21 n (ncell (upto k (fun j => (it j).1) 0)) ∧ wr.rowIs (w.heap.size + 1) 21 n (ncell (upto k (fun j => (it j).2.1) 0)) ∧ wr.rowIs (w.heap.size + 2) 21 n (ncell (upto k (fun j => (it j).2.2) 0)) ∧ Below w.heap.size w wr) (fun i _ _ => n - (intOf i).toNat)
  case atStart => exact ⟨0, Nat.zero_le _, rfl, s1, s2, s3, sb⟩
  case round =>
    obtain ⟨k0, hk0, rfl, hr1, hr2, hr3, hbelW⟩ := hrel
    obtain ⟨V0, rfl⟩ : ∃ V, V = wr := ⟨wr, rfl⟩
    clear s1 s2 s3 sb hmk kA kB kC
    by_cases hlt : k0 < n
    · obtain ⟨x0, x1, x2⟩ := iget (row_below hbelW ri ri.lt) hlt
      have hbi := ri.lt
      have kk : V0.cell? ⟨hb, 2, none⟩ = some (.slice (some ⟨bi, 0, none⟩) n n) := (hbelW.cell (p := ⟨hb, 2, none⟩) hhlt).trans k2
      have n1 : bi ≠ w.heap.size := by omega
      have n2 : bi ≠ w.heap.size + 1 := by omega
      have n3 : bi ≠ w.heap.size + 2 := by omega
      have n4 : hb ≠ w.heap.size := by omega
      have n5 : hb ≠ w.heap.size + 1 := by omega
      have n6 : hb ≠ w.heap.size + 2 := by omega
      have R1 := ((nset hr1).setOther (a := ⟨w.heap.size + 1, k0, none⟩) (show w.heap.size ≠ w.heap.size + 1 by omega) (.int .i32 (it k0).2.1)).setOther (a := ⟨w.heap.size + 2, k0, none⟩) (show w.heap.size ≠ w.heap.size + 2 by omega) (.int .i32 (it k0).2.2)
      have R2 := (nset (k := k0) (hr2.setOther (a := ⟨w.heap.size, k0, none⟩) (show w.heap.size + 1 ≠ w.heap.size by omega) (.int .i32 (it k0).1))).setOther (a := ⟨w.heap.size + 2, k0, none⟩) (show w.heap.size + 1 ≠ w.heap.size + 2 by omega) (.int .i32 (it k0).2.2)
      have R3 := nset (k := k0) ((hr3.setOther (a := ⟨w.heap.size, k0, none⟩) (show w.heap.size + 2 ≠ w.heap.size by omega) (.int .i32 (it k0).1)).setOther (a := ⟨w.heap.size + 1, k0, none⟩) (show w.heap.size + 2 ≠ w.heap.size + 1 by omega) (.int .i32 (it k0).2.1))
      have z1 := hr1.cell hlt
      have z2 := hr2.cell hlt
      have z3 := hr3.cell hlt
      have f1 := hr1.frozen k0
      have f2 := hr2.frozen k0
      have f3 := hr3.frozen k0
      unfold ncell at z1 z2 z3
      obtain ⟨y0, hy0⟩ : ∃ q, upto k0 (fun j => (it j).1) 0 k0 = q := ⟨_, rfl⟩
      obtain ⟨y1, hy1⟩ : ∃ q, upto k0 (fun j => (it j).2.1) 0 k0 = q := ⟨_, rfl⟩
      obtain ⟨y2, hy2⟩ : ∃ q, upto k0 (fun j => (it j).2.2) 0 k0 = q := ⟨_, rfl⟩
      rw [hy0] at z1
      rw [hy1] at z2
      rw [hy2] at z3
      obtain ⟨p0, hp0⟩ : ∃ q, (it k0).1 = q := ⟨_, rfl⟩
      obtain ⟨p1, hp1⟩ : ∃ q, (it k0).2.1 = q := ⟨_, rfl⟩
      obtain ⟨p2, hp2⟩ : ∃ q, (it k0).2.2 = q := ⟨_, rfl⟩
      rw [hp0] at x0 R1 R2 R3
      rw [hp1] at x1 R1 R2 R3
      rw [hp2] at x2 R1 R2 R3
      have HR : Hid (_ ∧ _ ∧ _) := And.intro R1 (And.intro R2 R3)
      clear hy0 hy1 hy2 hp0 hp1 hp2 hr1 hr2 hr3 R1 R2 R3 hh k2 k3
      go_wp2
      go_roundw
      case rel => exact ⟨k0 + 1, by omega, by go_num, HR.out.1, HR.out.2.1, HR.out.2.2, ((hbelW.setCell (p := ⟨w.heap.size, _, none⟩) (Nat.le_refl _) _).setCell (p := ⟨w.heap.size + 1, _, none⟩) (Nat.le_succ _) _).setCell (p := ⟨w.heap.size + 2, _, none⟩) (Nat.le_add_right _ _) _⟩
      case measure => simp [intOf]; omega
    · have hI3 : In3 V0 (some ⟨w.heap.size, 0, none⟩) (some ⟨w.heap.size + 1, 0, none⟩) (some ⟨w.heap.size + 2, 0, none⟩) n it := .inr ⟨_, _, _, rfl, rfl, rfl, hr1.congr (fun i hi => by unfold ncell; rw [upto_lt _ _ _ _ (by omega)]), hr2.congr (fun i hi => by unfold ncell; rw [upto_lt _ _ _ _ (by omega)]), hr3.congr (fun i hi => by unfold ncell; rw [upto_lt _ _ _ _ (by omega)])⟩
      clear hr1 hr2 hr3
      have hhW := row_below hbelW hh hhlt
      have g0 : (V0).cell? ⟨hb, 0, none⟩ = some (.int .i32 0) := hhW.cell (by decide)
      have g1 : (V0).cell? ⟨hb, 1, none⟩ = some (.int .i32 0) := hhW.cell (by decide)
      have g3 : (V0).cell? ⟨hb, 3, none⟩ = some (.slice none 0 0) := hhW.cell (by decide)
      have g4 : (V0).cell? ⟨hb, 4, none⟩ = some (.slice (some ⟨bo, 0, none⟩) nn nn) := hhW.cell (by decide)
      have g5 : (V0).cell? ⟨hb, 5, none⟩ = some (.slice none 0 0) := hhW.cell (by decide)
      have g6 : (V0).cell? ⟨hb, 6, none⟩ = some (.int .i32 0) := hhW.cell (by decide)
      have HF : Hid (In3 (V0) (some ⟨w.heap.size, 0, none⟩) (some ⟨w.heap.size + 1, 0, none⟩) (some ⟨w.heap.size + 2, 0, none⟩) n it ∧ Below w.heap.size w (V0)) := ⟨hI3, hbelW⟩
      clear hhW hI3 hbelW hh
      go_wp2
      go_quiet (fail)
      go_wp2
      refine bodyPost_ret (v := .tuple #[.int .i32 0, .int .i32 0, .slice (some ⟨w.heap.size, 0, none⟩) n n, .slice (some ⟨w.heap.size + 1, 0, none⟩) n n, .slice (some ⟨w.heap.size + 2, 0, none⟩) n n, .slice none 0 0, .slice none 0 0, (.slice (some ⟨bo, 0, none⟩) nn nn), .slice none 0 0, .int .i32 0]) (by simp [results, Try.results28]) rfl ?_
      exact ⟨_, _, _, ⟨_, _, rfl⟩, HF.out.1, below_drewN HF.out.2 _⟩

set_option maxHeartbeats 2000000 in
set_option maxRecDepth 100000 in
theorem st_ns (hb bo nn : Nat) (it : Nat → I3) (bl nl lo : Nat) (A : Nat → Option Addr) (cp : Nat → Nat) (L : Ls) (w : World) (hh : w.rowIs hb 104 7 (hcell (.slice none 0 0) (.slice (some ⟨bl, 0, none⟩) nl nl) (.slice (some ⟨bo, 0, none⟩) nn nn))) (hnl : nl ≤ 65536) (hln : ∀ j, j < nl → (L j).2 ≤ 131072) (rl : w.rowIs bl 107 nl (lv A (fun j => (L j).2) cp)) (each : ∀ j, j < nl → OwnR w 109 2 lo (A j) (L j).2 (cp j) (ecell (L j).1)) :
    Calls Try.prog 28 #[.pointer (some ⟨hb, 0, none⟩)] w fun e w' => ∃ a1 a2 a3, State10 e a1 a2 a3 0 (.slice (some ⟨bo, 0, none⟩) nn nn) ∧ In3 w' a1 a2 a3 0 it ∧ Below w.heap.size w w' := by
  have k2 : w.cell? ⟨hb, 2, none⟩ = some (.slice none 0 0) := hh.cell (by decide)
  have k3 : w.cell? ⟨hb, 3, none⟩ = some (.slice (some ⟨bl, 0, none⟩) nl nl) := hh.cell (by decide)
  have hhlt := hh.lt
  have hmk2 := run_make_row' (P := Try.prog) 55 35 (.slice none 0 0) 24 Try.underlying55 info35 rfl .i64 .i64 nl (by omega) (by omega)
  go_enter Try.func28, Try.ntmps28
  have hbelW : Below w.heap.size w w := Below.refl _ _
  have hI3 : In3 w none none none 0 it := .inl ⟨rfl, rfl, rfl, rfl⟩
  obtain ⟨X, hX⟩ : ∃ X, (w).heap.size = X := ⟨_, rfl⟩
  have hXw : w.heap.size ≤ X := by rw [← hX]; exact hbelW.size
  have l1 : ∃ f, (((w).alloc (.cells (madeCells #[.slice none 0 0] nl) 35)).alloc (.cells (madeCells #[.slice none 0 0] nl) 35)).rowIs X 35 nl f := by
    have := (World.rowIs_made (w) (.slice none 0 0) nl 35).alloc (.cells (madeCells #[.slice none 0 0] nl) 35)
    rw [hX] at this
    exact ⟨_, this⟩
  have l2 : ∃ f, (((w).alloc (.cells (madeCells #[.slice none 0 0] nl) 35)).alloc (.cells (madeCells #[.slice none 0 0] nl) 35)).rowIs (X + 1) 35 nl f := by
    have := World.rowIs_made ((w).alloc (.cells (madeCells #[.slice none 0 0] nl) 35)) (.slice none 0 0) nl 35
    simp only [World.size_alloc] at this
    rw [hX] at this
    exact ⟨_, this⟩
  have hbb : Below X (w) (((w).alloc (.cells (madeCells #[.slice none 0 0] nl) 35)).alloc (.cells (madeCells #[.slice none 0 0] nl) 35)) := ((Below.refl _ _).alloc (by omega) _).alloc (by simp; omega) _
  have HB0 : Hid (Below w.heap.size w (w)) := hbelW
  have HI3 : Hid (In3 (w) none none none 0 it) := hI3
  have HX : Hid ((w).heap.size = X) := hX
  have m3 : (w).cell? ⟨hb, 3, none⟩ = some (.slice (some ⟨bl, 0, none⟩) nl nl) := (hbelW.cell (p := ⟨hb, 3, none⟩) hhlt).trans k3
  have mA : ∀ o1, ((w).alloc o1).cell? ⟨hb, 3, none⟩ = some (.slice (some ⟨bl, 0, none⟩) nl nl) := fun o1 => (Below.cell (B := (w).heap.size) ((Below.refl _ _).alloc (Nat.le_refl _) o1) (by show hb < _; omega)).trans m3
  have mB : ∀ o1 o2, (((w).alloc o1).alloc o2).cell? ⟨hb, 3, none⟩ = some (.slice (some ⟨bl, 0, none⟩) nl nl) := fun o1 o2 => (Below.cell (B := (w).heap.size) (((Below.refl _ _).alloc (Nat.le_refl _) o1).alloc (by simp) o2) (by show hb < _; omega)).trans m3
  clear hI3 hbelW
  go_wp2
  go_loopw [104, 13] (fun i _ wr => ∃ (k : Nat), k ≤ nl ∧ i = .int .i64 k ∧ Hid ((∃ f, wr.rowIs X 35 nl f) ∧ (∃ f, wr.rowIs (X + 1) 35 nl f) ∧ Below X (w) wr)) (fun i _ _ => nl - (intOf i).toNat)
  case atStart => exact ⟨0, Nat.zero_le _, rfl, l1, l2, hbb⟩
  case round =>
    obtain ⟨k, hk, rfl, HL⟩ := hrel
    obtain ⟨V, rfl⟩ : ∃ V, V = wr := ⟨wr, rfl⟩
    clear l1 l2 hbb hmk2 mA mB m3
    have hbV : Below w.heap.size w V := HB0.out.trans (HL.out.2.2.mono hXw)
    have hsz : X ≤ V.heap.size := by have := HL.out.2.2.size; rw [HX.out] at this; exact this
    have hhV := row_below hbV hh hhlt
    have m3 : V.cell? ⟨hb, 3, none⟩ = some (.slice (some ⟨bl, 0, none⟩) nl nl) := hhV.cell (by decide)
    have hrlt := rl.lt
    by_cases hlt : k < nl
    · have c1 : V.cell? ⟨bl, k, none⟩ = some (.slice (A k) (L k).2 (cp k)) := (row_below hbV rl rl.lt).cell hlt
      have hl := hln k hlt
      have h2 := each k hlt
      obtain ⟨l, hll⟩ : ∃ l, (L k).2 = l := ⟨_, rfl⟩
      rcases h2 with ⟨e1, e2, e3⟩ | ⟨g, e1, _, e3, e4⟩
      · rw [e1, e2, e3] at c1
        clear e1 e2 e3 hl hll hbV hhV
        go_wp2
        go_roundw
        case rel => exact ⟨k + 1, by omega, by go_num, HL⟩
        case measure => simp [intOf]; omega
      · have e4V := row_below hbV e4 e4.lt
        rw [e1, hll] at c1
        rw [hll] at hl e3
        have hgV := e4V.lt
        have hmk3 := run_make_row' (P := Try.prog) 35 21 (.int .i32 0) 4 Try.underlying35 info21 rfl .i64 .i64 l (by omega) (by omega)
        have t1 : ∃ f, ((V.alloc (.cells (madeCells #[.int .i32 0] l) 21)).alloc (.cells (madeCells #[.int .i32 0] l) 21)).rowIs V.heap.size 21 l f := ⟨_, (World.rowIs_made V (.int .i32 0) l 21).alloc _⟩
        have t2 : ∃ f, ((V.alloc (.cells (madeCells #[.int .i32 0] l) 21)).alloc (.cells (madeCells #[.int .i32 0] l) 21)).rowIs (V.heap.size + 1) 21 l f := by
          have := World.rowIs_made (V.alloc (.cells (madeCells #[.int .i32 0] l) 21)) (.int .i32 0) l 21
          simp only [World.size_alloc] at this
          exact ⟨_, this⟩
        have hbv : Below V.heap.size V ((V.alloc (.cells (madeCells #[.int .i32 0] l) 21)).alloc (.cells (madeCells #[.int .i32 0] l) 21)) := ((Below.refl _ _).alloc (Nat.le_refl _) _).alloc (by simp) _
        have hblV : bl < V.heap.size := by omega
        have hhbV : hb < V.heap.size := by omega
        have cA : ∀ o, (V.alloc o).cell? ⟨bl, k, none⟩ = some (.slice (some ⟨g, 0, none⟩) l (cp k)) := fun o => (Below.cell (B := V.heap.size) ((Below.refl _ _).alloc (Nat.le_refl _) o) hblV).trans c1
        have cB : ∀ o o2, ((V.alloc o).alloc o2).cell? ⟨bl, k, none⟩ = some (.slice (some ⟨g, 0, none⟩) l (cp k)) := fun o o2 => (Below.cell (B := V.heap.size) (((Below.refl _ _).alloc (Nat.le_refl _) o).alloc (by simp) o2) hblV).trans c1
        have mA : ∀ o, (V.alloc o).cell? ⟨hb, 3, none⟩ = some (.slice (some ⟨bl, 0, none⟩) nl nl) := fun o => (Below.cell (B := V.heap.size) ((Below.refl _ _).alloc (Nat.le_refl _) o) hhbV).trans m3
        have mB : ∀ o o2, ((V.alloc o).alloc o2).cell? ⟨hb, 3, none⟩ = some (.slice (some ⟨bl, 0, none⟩) nl nl) := fun o o2 => (Below.cell (B := V.heap.size) (((Below.refl _ _).alloc (Nat.le_refl _) o).alloc (by simp) o2) hhbV).trans m3
        clear e1 e4 hll hbV hhV
        go_wp2
        go_loopw [141, 16] (fun j _ wi => ∃ m : Nat, m ≤ l ∧ j = .int .i64 m ∧ Hid ((∃ f, wi.rowIs V.heap.size 21 l f) ∧ (∃ f, wi.rowIs (V.heap.size + 1) 21 l f) ∧ Below V.heap.size V wi)) (fun j _ _ => l - (intOf j).toNat)
        case atStart => exact ⟨0, Nat.zero_le _, rfl, t1, t2, hbv⟩
        case round =>
          obtain ⟨wi, rfl⟩ : ∃ V, V = wr := ⟨wr, rfl⟩
          obtain ⟨m, hm, rfl, HM⟩ := hrel
          clear hmk3 t1 t2 hbv cA cB mA mB
          have d1 : wi.cell? ⟨bl, k, none⟩ = some (.slice (some ⟨g, 0, none⟩) l (cp k)) := (HM.out.2.2.cell (p := ⟨bl, k, none⟩) hblV).trans c1
          have d3 : wi.cell? ⟨hb, 3, none⟩ = some (.slice (some ⟨bl, 0, none⟩) nl nl) := (HM.out.2.2.cell (p := ⟨hb, 3, none⟩) hhbV).trans m3
          clear c1 m3
          by_cases hml : m < l
          · obtain ⟨x0, x1⟩ := eget (row_all HM.out.2.2 e4V) (show m < cp k by omega)
            obtain ⟨⟨fa, ra⟩, ⟨fb, rb⟩, hbel⟩ := HM.out
            have z1 := ra.cell hml
            have z2 := rb.cell hml
            have f1 := ra.frozen m
            have f2 := rb.frozen m
            obtain ⟨p0, hp0⟩ : ∃ q, ((L k).1 m).1 = q := ⟨_, rfl⟩
            obtain ⟨p1, hp1⟩ : ∃ q, ((L k).1 m).2 = q := ⟨_, rfl⟩
            rw [hp0] at x0
            rw [hp1] at x1
            have R1 : ∃ f, ((wi.setCell ⟨V.heap.size, m, none⟩ (.int .i32 p0)).setCell ⟨V.heap.size + 1, m, none⟩ (.int .i32 p1)).rowIs V.heap.size 21 l f := ⟨_, (ra.set m _).setOther (a := ⟨V.heap.size + 1, m, none⟩) (show V.heap.size ≠ V.heap.size + 1 by omega) _⟩
            have R2 : ∃ f, ((wi.setCell ⟨V.heap.size, m, none⟩ (.int .i32 p0)).setCell ⟨V.heap.size + 1, m, none⟩ (.int .i32 p1)).rowIs (V.heap.size + 1) 21 l f := ⟨_, (rb.setOther (a := ⟨V.heap.size, m, none⟩) (show V.heap.size + 1 ≠ V.heap.size by omega) _).set m _⟩
            have n1 : bl ≠ V.heap.size := by omega
            have n2 : bl ≠ V.heap.size + 1 := by omega
            have n3 : g ≠ V.heap.size := by omega
            have n4 : g ≠ V.heap.size + 1 := by omega
            have n5 : hb ≠ V.heap.size := by omega
            have n6 : hb ≠ V.heap.size + 1 := by omega
            obtain ⟨va, hva⟩ : ∃ q, fa m = q := ⟨_, rfl⟩
            obtain ⟨vb, hvb⟩ : ∃ q, fb m = q := ⟨_, rfl⟩
            rw [hva] at z1
            rw [hvb] at z2
            have HR : Hid (_ ∧ _ ∧ _) := And.intro R1 (And.intro R2 ((hbel.setCell (p := ⟨V.heap.size, m, none⟩) (Nat.le_refl _) (.int .i32 p0)).setCell (p := ⟨V.heap.size + 1, m, none⟩) (Nat.le_succ _) (.int .i32 p1)))
            clear hp0 hp1 hva hvb ra rb hbel R1 R2 e4V HM
            go_wp2
            go_roundw
            case rel => exact ⟨m + 1, by omega, by go_num, HR⟩
            case measure => simp [intOf]; omega
          · obtain ⟨⟨fa, ra⟩, ⟨fb, rb⟩, hV⟩ := HL.out
            have hbel := HM.out.2.2
            have ra' := row_all hbel ra
            have rb' := row_all hbel rb
            have z1 := ra'.cell hlt
            have z2 := rb'.cell hlt
            have f1 := ra'.frozen k
            have f2 := rb'.frozen k
            obtain ⟨va, hva⟩ : ∃ q, fa k = q := ⟨_, rfl⟩
            obtain ⟨vb, hvb⟩ : ∃ q, fb k = q := ⟨_, rfl⟩
            rw [hva] at z1
            rw [hvb] at z2
            have R1 : ∃ f, ((wi.setCell ⟨X, k, none⟩ (.slice (some ⟨V.heap.size, 0, none⟩) l l)).setCell ⟨X + 1, k, none⟩ (.slice (some ⟨V.heap.size + 1, 0, none⟩) l l)).rowIs X 35 nl f := ⟨_, (ra'.set k _).setOther (a := ⟨X + 1, k, none⟩) (show X ≠ X + 1 by omega) _⟩
            have R2 : ∃ f, ((wi.setCell ⟨X, k, none⟩ (.slice (some ⟨V.heap.size, 0, none⟩) l l)).setCell ⟨X + 1, k, none⟩ (.slice (some ⟨V.heap.size + 1, 0, none⟩) l l)).rowIs (X + 1) 35 nl f := ⟨_, (rb'.setOther (a := ⟨X, k, none⟩) (show X + 1 ≠ X by omega) _).set k _⟩
            have HR : Hid (_ ∧ _ ∧ _) := And.intro R1 (And.intro R2 (((hV.trans (hbel.mono hsz)).setCell (p := ⟨X, k, none⟩) (Nat.le_refl _) (.slice (some ⟨V.heap.size, 0, none⟩) l l)).setCell (p := ⟨X + 1, k, none⟩) (Nat.le_succ _) (.slice (some ⟨V.heap.size + 1, 0, none⟩) l l)))
            clear hva hvb ra rb ra' rb' hbel hV R1 R2 e4V HM HL
            go_wp2
            go_roundw
            case rel => exact ⟨k + 1, by omega, by go_num, HR⟩
            case measure => simp [intOf]; omega
    · have hbX := HL.out.2.2
      rw [← HX.out] at hbX
      have hI3 : In3 V none none none 0 it := HI3.out.mono hbX
      have hbelW : Below w.heap.size w V := hbV
      clear HL hbX hhV hbV m3
      have hhW := row_below hbelW hh hhlt
      have g0 : (V).cell? ⟨hb, 0, none⟩ = some (.int .i32 0) := hhW.cell (by decide)
      have g1 : (V).cell? ⟨hb, 1, none⟩ = some (.int .i32 0) := hhW.cell (by decide)
      have g3 : (V).cell? ⟨hb, 3, none⟩ = some (.slice (some ⟨bl, 0, none⟩) nl nl) := hhW.cell (by decide)
      have g4 : (V).cell? ⟨hb, 4, none⟩ = some (.slice (some ⟨bo, 0, none⟩) nn nn) := hhW.cell (by decide)
      have g5 : (V).cell? ⟨hb, 5, none⟩ = some (.slice none 0 0) := hhW.cell (by decide)
      have g6 : (V).cell? ⟨hb, 6, none⟩ = some (.int .i32 0) := hhW.cell (by decide)
      have HF : Hid (In3 (V) none none none 0 it ∧ Below w.heap.size w (V)) := ⟨hI3, hbelW⟩
      clear hhW hI3 hbelW hh
      go_wp2
      go_quiet (fail)
      go_wp2
      refine bodyPost_ret (v := .tuple #[.int .i32 0, .int .i32 0, .slice none 0 0, .slice none 0 0, .slice none 0 0, .slice (some ⟨X, 0, none⟩) nl nl, .slice (some ⟨X + 1, 0, none⟩) nl nl, (.slice (some ⟨bo, 0, none⟩) nn nn), .slice none 0 0, .int .i32 0]) (by simp [results, Try.results28]) rfl ?_
      exact ⟨_, _, _, ⟨_, _, rfl⟩, HF.out.1, below_drewN HF.out.2 _⟩

set_option maxHeartbeats 2000000 in
set_option maxRecDepth 100000 in
theorem st_ss (hb bo nn : Nat) (it : Nat → I3) (bi n : Nat) (bl nl lo : Nat) (A : Nat → Option Addr) (cp : Nat → Nat) (L : Ls) (w : World) (hh : w.rowIs hb 104 7 (hcell (.slice (some ⟨bi, 0, none⟩) n n) (.slice (some ⟨bl, 0, none⟩) nl nl) (.slice (some ⟨bo, 0, none⟩) nn nn))) (hn : n ≤ 65536) (ri : w.rowIs bi 106 (n * 3) (icell it)) (hnl : nl ≤ 65536) (hln : ∀ j, j < nl → (L j).2 ≤ 131072) (rl : w.rowIs bl 107 nl (lv A (fun j => (L j).2) cp)) (each : ∀ j, j < nl → OwnR w 109 2 lo (A j) (L j).2 (cp j) (ecell (L j).1)) :
    Calls Try.prog 28 #[.pointer (some ⟨hb, 0, none⟩)] w fun e w' => ∃ a1 a2 a3, State10 e a1 a2 a3 n (.slice (some ⟨bo, 0, none⟩) nn nn) ∧ In3 w' a1 a2 a3 n it ∧ Below w.heap.size w w' := by
  have k2 : w.cell? ⟨hb, 2, none⟩ = some (.slice (some ⟨bi, 0, none⟩) n n) := hh.cell (by decide)
  have k3 : w.cell? ⟨hb, 3, none⟩ = some (.slice (some ⟨bl, 0, none⟩) nl nl) := hh.cell (by decide)
  have hhlt := hh.lt
  have hmk := run_make_row' (P := Try.prog) 35 21 (.int .i32 0) 4 Try.underlying35 info21 rfl .i64 .i64 n (by omega) (by omega)
  have s1 : (((w.alloc (.cells (madeCells #[.int .i32 0] n) 21)).alloc (.cells (madeCells #[.int .i32 0] n) 21)).alloc (.cells (madeCells #[.int .i32 0] n) 21)).rowIs w.heap.size 21 n (ncell (upto 0 (fun j => (it j).1) 0)) := (((World.rowIs_made w (.int .i32 0) n 21).alloc _).alloc _).congr fun i _ => by simp [ncell, upto]
  have s2 : (((w.alloc (.cells (madeCells #[.int .i32 0] n) 21)).alloc (.cells (madeCells #[.int .i32 0] n) 21)).alloc (.cells (madeCells #[.int .i32 0] n) 21)).rowIs (w.heap.size + 1) 21 n (ncell (upto 0 (fun j => (it j).2.1) 0)) := by
    have := (World.rowIs_made (w.alloc (.cells (madeCells #[.int .i32 0] n) 21)) (.int .i32 0) n 21).alloc (.cells (madeCells #[.int .i32 0] n) 21)
    simp only [World.size_alloc] at this
    exact this.congr fun i _ => by simp [ncell, upto]
  have s3 : (((w.alloc (.cells (madeCells #[.int .i32 0] n) 21)).alloc (.cells (madeCells #[.int .i32 0] n) 21)).alloc (.cells (madeCells #[.int .i32 0] n) 21)).rowIs (w.heap.size + 2) 21 n (ncell (upto 0 (fun j => (it j).2.2) 0)) := by
    have := World.rowIs_made ((w.alloc (.cells (madeCells #[.int .i32 0] n) 21)).alloc (.cells (madeCells #[.int .i32 0] n) 21)) (.int .i32 0) n 21
    simp only [World.size_alloc] at this
    exact this.congr fun i _ => by simp [ncell, upto]
  have sb : Below w.heap.size w (((w.alloc (.cells (madeCells #[.int .i32 0] n) 21)).alloc (.cells (madeCells #[.int .i32 0] n) 21)).alloc (.cells (madeCells #[.int .i32 0] n) 21)) := (((Below.refl _ _).alloc (Nat.le_refl _) _).alloc (by simp) _).alloc (by simp; omega) _
  have kA : ∀ o1, (w.alloc o1).cell? ⟨hb, 2, none⟩ = some (.slice (some ⟨bi, 0, none⟩) n n) := fun o1 => (Below.cell (B := w.heap.size) ((Below.refl _ _).alloc (Nat.le_refl _) o1) hhlt).trans k2
  have kB : ∀ o1 o2, ((w.alloc o1).alloc o2).cell? ⟨hb, 2, none⟩ = some (.slice (some ⟨bi, 0, none⟩) n n) := fun o1 o2 => (Below.cell (B := w.heap.size) (((Below.refl _ _).alloc (Nat.le_refl _) o1).alloc (by simp) o2) hhlt).trans k2
  have kC : ∀ o1 o2 o3, (((w.alloc o1).alloc o2).alloc o3).cell? ⟨hb, 2, none⟩ = some (.slice (some ⟨bi, 0, none⟩) n n) := fun o1 o2 o3 => (Below.cell (B := w.heap.size) ((((Below.refl _ _).alloc (Nat.le_refl _) o1).alloc (by simp) o2).alloc (by simp; omega) o3) hhlt).trans k2
  have hmk2 := run_make_row' (P := Try.prog) 55 35 (.slice none 0 0) 24 Try.underlying55 info35 rfl .i64 .i64 nl (by omega) (by omega)
  go_enter Try.func28, Try.ntmps28
  go_wp2
  go_loopw [45, 12] (fun i _ wr => ∃ k : Nat, k ≤ n ∧ i = .int .i64 k ∧ wr.rowIs w.heap.size 21 n (ncell (upto k (fun j => (it j).1) 0)) ∧ wr.rowIs (w.heap.size + 1) 21 n (ncell (upto k (fun j => (it j).2.1) 0)) ∧ wr.rowIs (w.heap.size + 2) 21 n (ncell (upto k (fun j => (it j).2.2) 0)) ∧ Below w.heap.size w wr) (fun i _ _ => n - (intOf i).toNat)
  case atStart => exact ⟨0, Nat.zero_le _, rfl, s1, s2, s3, sb⟩
  case round =>
    obtain ⟨k0, hk0, rfl, hr1, hr2, hr3, hbelW⟩ := hrel
    obtain ⟨V0, rfl⟩ : ∃ V, V = wr := ⟨wr, rfl⟩
    clear s1 s2 s3 sb hmk kA kB kC
    by_cases hlt : k0 < n
    · obtain ⟨x0, x1, x2⟩ := iget (row_below hbelW ri ri.lt) hlt
      have hbi := ri.lt
      have kk : V0.cell? ⟨hb, 2, none⟩ = some (.slice (some ⟨bi, 0, none⟩) n n) := (hbelW.cell (p := ⟨hb, 2, none⟩) hhlt).trans k2
      have n1 : bi ≠ w.heap.size := by omega
      have n2 : bi ≠ w.heap.size + 1 := by omega
      have n3 : bi ≠ w.heap.size + 2 := by omega
      have n4 : hb ≠ w.heap.size := by omega
      have n5 : hb ≠ w.heap.size + 1 := by omega
      have n6 : hb ≠ w.heap.size + 2 := by omega
      have R1 := ((nset hr1).setOther (a := ⟨w.heap.size + 1, k0, none⟩) (show w.heap.size ≠ w.heap.size + 1 by omega) (.int .i32 (it k0).2.1)).setOther (a := ⟨w.heap.size + 2, k0, none⟩) (show w.heap.size ≠ w.heap.size + 2 by omega) (.int .i32 (it k0).2.2)
      have R2 := (nset (k := k0) (hr2.setOther (a := ⟨w.heap.size, k0, none⟩) (show w.heap.size + 1 ≠ w.heap.size by omega) (.int .i32 (it k0).1))).setOther (a := ⟨w.heap.size + 2, k0, none⟩) (show w.heap.size + 1 ≠ w.heap.size + 2 by omega) (.int .i32 (it k0).2.2)
      have R3 := nset (k := k0) ((hr3.setOther (a := ⟨w.heap.size, k0, none⟩) (show w.heap.size + 2 ≠ w.heap.size by omega) (.int .i32 (it k0).1)).setOther (a := ⟨w.heap.size + 1, k0, none⟩) (show w.heap.size + 2 ≠ w.heap.size + 1 by omega) (.int .i32 (it k0).2.1))
      have z1 := hr1.cell hlt
      have z2 := hr2.cell hlt
      have z3 := hr3.cell hlt
      have f1 := hr1.frozen k0
      have f2 := hr2.frozen k0
      have f3 := hr3.frozen k0
      unfold ncell at z1 z2 z3
      obtain ⟨y0, hy0⟩ : ∃ q, upto k0 (fun j => (it j).1) 0 k0 = q := ⟨_, rfl⟩
      obtain ⟨y1, hy1⟩ : ∃ q, upto k0 (fun j => (it j).2.1) 0 k0 = q := ⟨_, rfl⟩
      obtain ⟨y2, hy2⟩ : ∃ q, upto k0 (fun j => (it j).2.2) 0 k0 = q := ⟨_, rfl⟩
      rw [hy0] at z1
      rw [hy1] at z2
      rw [hy2] at z3
      obtain ⟨p0, hp0⟩ : ∃ q, (it k0).1 = q := ⟨_, rfl⟩
      obtain ⟨p1, hp1⟩ : ∃ q, (it k0).2.1 = q := ⟨_, rfl⟩
      obtain ⟨p2, hp2⟩ : ∃ q, (it k0).2.2 = q := ⟨_, rfl⟩
      rw [hp0] at x0 R1 R2 R3
      rw [hp1] at x1 R1 R2 R3
      rw [hp2] at x2 R1 R2 R3
      have HR : Hid (_ ∧ _ ∧ _) := And.intro R1 (And.intro R2 R3)
      clear hy0 hy1 hy2 hp0 hp1 hp2 hr1 hr2 hr3 R1 R2 R3 hh k2 k3 hmk2
      go_wp2
      go_roundw
      case rel => exact ⟨k0 + 1, by omega, by go_num, HR.out.1, HR.out.2.1, HR.out.2.2, ((hbelW.setCell (p := ⟨w.heap.size, _, none⟩) (Nat.le_refl _) _).setCell (p := ⟨w.heap.size + 1, _, none⟩) (Nat.le_succ _) _).setCell (p := ⟨w.heap.size + 2, _, none⟩) (Nat.le_add_right _ _) _⟩
      case measure => simp [intOf]; omega
    · have hI3 : In3 V0 (some ⟨w.heap.size, 0, none⟩) (some ⟨w.heap.size + 1, 0, none⟩) (some ⟨w.heap.size + 2, 0, none⟩) n it := .inr ⟨_, _, _, rfl, rfl, rfl, hr1.congr (fun i hi => by unfold ncell; rw [upto_lt _ _ _ _ (by omega)]), hr2.congr (fun i hi => by unfold ncell; rw [upto_lt _ _ _ _ (by omega)]), hr3.congr (fun i hi => by unfold ncell; rw [upto_lt _ _ _ _ (by omega)])⟩
      clear hr1 hr2 hr3
      obtain ⟨X, hX⟩ : ∃ X, (V0).heap.size = X := ⟨_, rfl⟩
      have hXw : w.heap.size ≤ X := by rw [← hX]; exact hbelW.size
      have l1 : ∃ f, (((V0).alloc (.cells (madeCells #[.slice none 0 0] nl) 35)).alloc (.cells (madeCells #[.slice none 0 0] nl) 35)).rowIs X 35 nl f := by
        have := (World.rowIs_made (V0) (.slice none 0 0) nl 35).alloc (.cells (madeCells #[.slice none 0 0] nl) 35)
        rw [hX] at this
        exact ⟨_, this⟩
      have l2 : ∃ f, (((V0).alloc (.cells (madeCells #[.slice none 0 0] nl) 35)).alloc (.cells (madeCells #[.slice none 0 0] nl) 35)).rowIs (X + 1) 35 nl f := by
        have := World.rowIs_made ((V0).alloc (.cells (madeCells #[.slice none 0 0] nl) 35)) (.slice none 0 0) nl 35
        simp only [World.size_alloc] at this
        rw [hX] at this
        exact ⟨_, this⟩
      have hbb : Below X (V0) (((V0).alloc (.cells (madeCells #[.slice none 0 0] nl) 35)).alloc (.cells (madeCells #[.slice none 0 0] nl) 35)) := ((Below.refl _ _).alloc (by omega) _).alloc (by simp; omega) _
      have HB0 : Hid (Below w.heap.size w (V0)) := hbelW
      have HI3 : Hid (In3 (V0) (some ⟨w.heap.size, 0, none⟩) (some ⟨w.heap.size + 1, 0, none⟩) (some ⟨w.heap.size + 2, 0, none⟩) n it) := hI3
      have HX : Hid ((V0).heap.size = X) := hX
      have m3 : (V0).cell? ⟨hb, 3, none⟩ = some (.slice (some ⟨bl, 0, none⟩) nl nl) := (hbelW.cell (p := ⟨hb, 3, none⟩) hhlt).trans k3
      have mA : ∀ o1, ((V0).alloc o1).cell? ⟨hb, 3, none⟩ = some (.slice (some ⟨bl, 0, none⟩) nl nl) := fun o1 => (Below.cell (B := (V0).heap.size) ((Below.refl _ _).alloc (Nat.le_refl _) o1) (by show hb < _; omega)).trans m3
      have mB : ∀ o1 o2, (((V0).alloc o1).alloc o2).cell? ⟨hb, 3, none⟩ = some (.slice (some ⟨bl, 0, none⟩) nl nl) := fun o1 o2 => (Below.cell (B := (V0).heap.size) (((Below.refl _ _).alloc (Nat.le_refl _) o1).alloc (by simp) o2) (by show hb < _; omega)).trans m3
      clear hI3 hbelW
      go_wp2
      go_loopw [104, 13] (fun i _ wr => ∃ (k : Nat), k ≤ nl ∧ i = .int .i64 k ∧ Hid ((∃ f, wr.rowIs X 35 nl f) ∧ (∃ f, wr.rowIs (X + 1) 35 nl f) ∧ Below X (V0) wr)) (fun i _ _ => nl - (intOf i).toNat)
      case atStart => exact ⟨0, Nat.zero_le _, rfl, l1, l2, hbb⟩
      case round =>
        obtain ⟨k, hk, rfl, HL⟩ := hrel
        obtain ⟨V, rfl⟩ : ∃ V, V = wr := ⟨wr, rfl⟩
        clear l1 l2 hbb hmk2 mA mB m3
        have hbV : Below w.heap.size w V := HB0.out.trans (HL.out.2.2.mono hXw)
        have hsz : X ≤ V.heap.size := by have := HL.out.2.2.size; rw [HX.out] at this; exact this
        have hhV := row_below hbV hh hhlt
        have m3 : V.cell? ⟨hb, 3, none⟩ = some (.slice (some ⟨bl, 0, none⟩) nl nl) := hhV.cell (by decide)
        have hrlt := rl.lt
        by_cases hlt : k < nl
        · have c1 : V.cell? ⟨bl, k, none⟩ = some (.slice (A k) (L k).2 (cp k)) := (row_below hbV rl rl.lt).cell hlt
          have hl := hln k hlt
          have h2 := each k hlt
          obtain ⟨l, hll⟩ : ∃ l, (L k).2 = l := ⟨_, rfl⟩
          rcases h2 with ⟨e1, e2, e3⟩ | ⟨g, e1, _, e3, e4⟩
          · rw [e1, e2, e3] at c1
            clear e1 e2 e3 hl hll hbV hhV
            go_wp2
            go_roundw
            case rel => exact ⟨k + 1, by omega, by go_num, HL⟩
            case measure => simp [intOf]; omega
          · have e4V := row_below hbV e4 e4.lt
            rw [e1, hll] at c1
            rw [hll] at hl e3
            have hgV := e4V.lt
            have hmk3 := run_make_row' (P := Try.prog) 35 21 (.int .i32 0) 4 Try.underlying35 info21 rfl .i64 .i64 l (by omega) (by omega)
            have t1 : ∃ f, ((V.alloc (.cells (madeCells #[.int .i32 0] l) 21)).alloc (.cells (madeCells #[.int .i32 0] l) 21)).rowIs V.heap.size 21 l f := ⟨_, (World.rowIs_made V (.int .i32 0) l 21).alloc _⟩
            have t2 : ∃ f, ((V.alloc (.cells (madeCells #[.int .i32 0] l) 21)).alloc (.cells (madeCells #[.int .i32 0] l) 21)).rowIs (V.heap.size + 1) 21 l f := by
              have := World.rowIs_made (V.alloc (.cells (madeCells #[.int .i32 0] l) 21)) (.int .i32 0) l 21
              simp only [World.size_alloc] at this
              exact ⟨_, this⟩
            have hbv : Below V.heap.size V ((V.alloc (.cells (madeCells #[.int .i32 0] l) 21)).alloc (.cells (madeCells #[.int .i32 0] l) 21)) := ((Below.refl _ _).alloc (Nat.le_refl _) _).alloc (by simp) _
            have hblV : bl < V.heap.size := by omega
            have hhbV : hb < V.heap.size := by omega
            have cA : ∀ o, (V.alloc o).cell? ⟨bl, k, none⟩ = some (.slice (some ⟨g, 0, none⟩) l (cp k)) := fun o => (Below.cell (B := V.heap.size) ((Below.refl _ _).alloc (Nat.le_refl _) o) hblV).trans c1
            have cB : ∀ o o2, ((V.alloc o).alloc o2).cell? ⟨bl, k, none⟩ = some (.slice (some ⟨g, 0, none⟩) l (cp k)) := fun o o2 => (Below.cell (B := V.heap.size) (((Below.refl _ _).alloc (Nat.le_refl _) o).alloc (by simp) o2) hblV).trans c1
            have mA : ∀ o, (V.alloc o).cell? ⟨hb, 3, none⟩ = some (.slice (some ⟨bl, 0, none⟩) nl nl) := fun o => (Below.cell (B := V.heap.size) ((Below.refl _ _).alloc (Nat.le_refl _) o) hhbV).trans m3
            have mB : ∀ o o2, ((V.alloc o).alloc o2).cell? ⟨hb, 3, none⟩ = some (.slice (some ⟨bl, 0, none⟩) nl nl) := fun o o2 => (Below.cell (B := V.heap.size) (((Below.refl _ _).alloc (Nat.le_refl _) o).alloc (by simp) o2) hhbV).trans m3
            clear e1 e4 hll hbV hhV
            go_wp2
            go_loopw [141, 16] (fun j _ wi => ∃ m : Nat, m ≤ l ∧ j = .int .i64 m ∧ Hid ((∃ f, wi.rowIs V.heap.size 21 l f) ∧ (∃ f, wi.rowIs (V.heap.size + 1) 21 l f) ∧ Below V.heap.size V wi)) (fun j _ _ => l - (intOf j).toNat)
            case atStart => exact ⟨0, Nat.zero_le _, rfl, t1, t2, hbv⟩
            case round =>
              obtain ⟨wi, rfl⟩ : ∃ V, V = wr := ⟨wr, rfl⟩
              obtain ⟨m, hm, rfl, HM⟩ := hrel
              clear hmk3 t1 t2 hbv cA cB mA mB
              have d1 : wi.cell? ⟨bl, k, none⟩ = some (.slice (some ⟨g, 0, none⟩) l (cp k)) := (HM.out.2.2.cell (p := ⟨bl, k, none⟩) hblV).trans c1
              have d3 : wi.cell? ⟨hb, 3, none⟩ = some (.slice (some ⟨bl, 0, none⟩) nl nl) := (HM.out.2.2.cell (p := ⟨hb, 3, none⟩) hhbV).trans m3
              clear c1 m3
              by_cases hml : m < l
              · obtain ⟨x0, x1⟩ := eget (row_all HM.out.2.2 e4V) (show m < cp k by omega)
                obtain ⟨⟨fa, ra⟩, ⟨fb, rb⟩, hbel⟩ := HM.out
                have z1 := ra.cell hml
                have z2 := rb.cell hml
                have f1 := ra.frozen m
                have f2 := rb.frozen m
                obtain ⟨p0, hp0⟩ : ∃ q, ((L k).1 m).1 = q := ⟨_, rfl⟩
                obtain ⟨p1, hp1⟩ : ∃ q, ((L k).1 m).2 = q := ⟨_, rfl⟩
                rw [hp0] at x0
                rw [hp1] at x1
                have R1 : ∃ f, ((wi.setCell ⟨V.heap.size, m, none⟩ (.int .i32 p0)).setCell ⟨V.heap.size + 1, m, none⟩ (.int .i32 p1)).rowIs V.heap.size 21 l f := ⟨_, (ra.set m _).setOther (a := ⟨V.heap.size + 1, m, none⟩) (show V.heap.size ≠ V.heap.size + 1 by omega) _⟩
                have R2 : ∃ f, ((wi.setCell ⟨V.heap.size, m, none⟩ (.int .i32 p0)).setCell ⟨V.heap.size + 1, m, none⟩ (.int .i32 p1)).rowIs (V.heap.size + 1) 21 l f := ⟨_, (rb.setOther (a := ⟨V.heap.size, m, none⟩) (show V.heap.size + 1 ≠ V.heap.size by omega) _).set m _⟩
                have n1 : bl ≠ V.heap.size := by omega
                have n2 : bl ≠ V.heap.size + 1 := by omega
                have n3 : g ≠ V.heap.size := by omega
                have n4 : g ≠ V.heap.size + 1 := by omega
                have n5 : hb ≠ V.heap.size := by omega
                have n6 : hb ≠ V.heap.size + 1 := by omega
                obtain ⟨va, hva⟩ : ∃ q, fa m = q := ⟨_, rfl⟩
                obtain ⟨vb, hvb⟩ : ∃ q, fb m = q := ⟨_, rfl⟩
                rw [hva] at z1
                rw [hvb] at z2
                have HR : Hid (_ ∧ _ ∧ _) := And.intro R1 (And.intro R2 ((hbel.setCell (p := ⟨V.heap.size, m, none⟩) (Nat.le_refl _) (.int .i32 p0)).setCell (p := ⟨V.heap.size + 1, m, none⟩) (Nat.le_succ _) (.int .i32 p1)))
                clear hp0 hp1 hva hvb ra rb hbel R1 R2 e4V HM
                go_wp2
                go_roundw
                case rel => exact ⟨m + 1, by omega, by go_num, HR⟩
                case measure => simp [intOf]; omega
              · obtain ⟨⟨fa, ra⟩, ⟨fb, rb⟩, hV⟩ := HL.out
                have hbel := HM.out.2.2
                have ra' := row_all hbel ra
                have rb' := row_all hbel rb
                have z1 := ra'.cell hlt
                have z2 := rb'.cell hlt
                have f1 := ra'.frozen k
                have f2 := rb'.frozen k
                obtain ⟨va, hva⟩ : ∃ q, fa k = q := ⟨_, rfl⟩
                obtain ⟨vb, hvb⟩ : ∃ q, fb k = q := ⟨_, rfl⟩
                rw [hva] at z1
                rw [hvb] at z2
                have R1 : ∃ f, ((wi.setCell ⟨X, k, none⟩ (.slice (some ⟨V.heap.size, 0, none⟩) l l)).setCell ⟨X + 1, k, none⟩ (.slice (some ⟨V.heap.size + 1, 0, none⟩) l l)).rowIs X 35 nl f := ⟨_, (ra'.set k _).setOther (a := ⟨X + 1, k, none⟩) (show X ≠ X + 1 by omega) _⟩
                have R2 : ∃ f, ((wi.setCell ⟨X, k, none⟩ (.slice (some ⟨V.heap.size, 0, none⟩) l l)).setCell ⟨X + 1, k, none⟩ (.slice (some ⟨V.heap.size + 1, 0, none⟩) l l)).rowIs (X + 1) 35 nl f := ⟨_, (rb'.setOther (a := ⟨X, k, none⟩) (show X + 1 ≠ X by omega) _).set k _⟩
                have HR : Hid (_ ∧ _ ∧ _) := And.intro R1 (And.intro R2 (((hV.trans (hbel.mono hsz)).setCell (p := ⟨X, k, none⟩) (Nat.le_refl _) (.slice (some ⟨V.heap.size, 0, none⟩) l l)).setCell (p := ⟨X + 1, k, none⟩) (Nat.le_succ _) (.slice (some ⟨V.heap.size + 1, 0, none⟩) l l)))
                clear hva hvb ra rb ra' rb' hbel hV R1 R2 e4V HM HL
                go_wp2
                go_roundw
                case rel => exact ⟨k + 1, by omega, by go_num, HR⟩
                case measure => simp [intOf]; omega
        · have hbX := HL.out.2.2
          rw [← HX.out] at hbX
          have hI3 : In3 V (some ⟨w.heap.size, 0, none⟩) (some ⟨w.heap.size + 1, 0, none⟩) (some ⟨w.heap.size + 2, 0, none⟩) n it := HI3.out.mono hbX
          have hbelW : Below w.heap.size w V := hbV
          clear HL hbX hhV hbV m3
          have hhW := row_below hbelW hh hhlt
          have g0 : (V).cell? ⟨hb, 0, none⟩ = some (.int .i32 0) := hhW.cell (by decide)
          have g1 : (V).cell? ⟨hb, 1, none⟩ = some (.int .i32 0) := hhW.cell (by decide)
          have g3 : (V).cell? ⟨hb, 3, none⟩ = some (.slice (some ⟨bl, 0, none⟩) nl nl) := hhW.cell (by decide)
          have g4 : (V).cell? ⟨hb, 4, none⟩ = some (.slice (some ⟨bo, 0, none⟩) nn nn) := hhW.cell (by decide)
          have g5 : (V).cell? ⟨hb, 5, none⟩ = some (.slice none 0 0) := hhW.cell (by decide)
          have g6 : (V).cell? ⟨hb, 6, none⟩ = some (.int .i32 0) := hhW.cell (by decide)
          have HF : Hid (In3 (V) (some ⟨w.heap.size, 0, none⟩) (some ⟨w.heap.size + 1, 0, none⟩) (some ⟨w.heap.size + 2, 0, none⟩) n it ∧ Below w.heap.size w (V)) := ⟨hI3, hbelW⟩
          clear hhW hI3 hbelW hh
          go_wp2
          go_quiet (fail)
          go_wp2
          refine bodyPost_ret (v := .tuple #[.int .i32 0, .int .i32 0, .slice (some ⟨w.heap.size, 0, none⟩) n n, .slice (some ⟨w.heap.size + 1, 0, none⟩) n n, .slice (some ⟨w.heap.size + 2, 0, none⟩) n n, .slice (some ⟨X, 0, none⟩) nl nl, .slice (some ⟨X + 1, 0, none⟩) nl nl, (.slice (some ⟨bo, 0, none⟩) nn nn), .slice none 0 0, .int .i32 0]) (by simp [results, Try.results28]) rfl ?_
          exact ⟨_, _, _, ⟨_, _, rfl⟩, HF.out.1, below_drewN HF.out.2 _⟩

/-- ZZHolderWaitsState of a holder. -/
theorem state_any (hb n nl nn lo : Nat) (it : Nat → I3) (L : Ls) (LO : Nat → Int) (w : World) (hn : n ≤ 65536) (hnl : nl ≤ 65536) (hln : ∀ j, j < nl → (L j).2 ≤ 131072) (hH : Holder w lo hb n it nl L nn LO) :
    Calls Try.prog 28 #[.pointer (some ⟨hb, 0, none⟩)] w fun e w' => ∃ a1 a2 a3 vo, State10 e a1 a2 a3 n vo ∧ In3 w' a1 a2 a3 n it ∧ Below w.heap.size w w' := by
  obtain ⟨ai, al, A, cp, bo, hh, _, hI, hL, _, ro⟩ := hH
  rcases hI with ⟨rfl, rfl⟩ | ⟨bi, rfl, _, ri⟩
  · rcases hL with ⟨rfl, rfl⟩ | ⟨bl, rfl, _, rl, each, _⟩
    · exact (st_nn hb bo nn it w hh).mono fun e w' ⟨a1, a2, a3, h⟩ => ⟨a1, a2, a3, _, h⟩
    · exact (st_ns hb bo nn it bl nl lo A cp L w hh hnl hln rl each).mono fun e w' ⟨a1, a2, a3, h⟩ => ⟨a1, a2, a3, _, h⟩
  · rcases hL with ⟨rfl, rfl⟩ | ⟨bl, rfl, _, rl, each, _⟩
    · exact (st_sn hb bo nn it bi n w hh hn ri).mono fun e w' ⟨a1, a2, a3, h⟩ => ⟨a1, a2, a3, _, h⟩
    · exact (st_ss hb bo nn it bi n bl nl lo A cp L w hh hn ri hnl hln rl each).mono fun e w' ⟨a1, a2, a3, h⟩ => ⟨a1, a2, a3, _, h⟩

end Go.Proofs.Qxb6605516a
