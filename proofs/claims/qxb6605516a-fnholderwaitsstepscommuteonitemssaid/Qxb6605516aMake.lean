import Derived.Test.Qxb6605516aHolder
namespace Go.Proofs.Qxb6605516a
open Go.RowKit Go.Deep
open Pl (I3 E2 Ls upd upd_same upd_other)

/-- The lists as the holder has them at first. -/
def mkL (ln : Nat → Nat) (E : Nat → Nat → E2) : Ls := fun j => (E j, ln j)

theorem HL.lower {w : World} {lo lo' nl : Nat} {al : Option Addr} {A : Nat → Option Addr} {cp : Nat → Nat} {L : Ls} (h : HL w lo al nl A cp L) (hl : lo' ≤ lo) : HL w lo' al nl A cp L := by
  rcases h with h | ⟨bl, h1, h2, h3, h4, h5⟩
  · exact .inl h
  · refine .inr ⟨bl, h1, Nat.le_trans hl h2, h3, fun j hj => ?_, h5⟩
    rcases h4 j hj with g | ⟨b, g1, g2, g3, g4⟩
    · exact .inl g
    · exact .inr ⟨b, g1, Nat.le_trans hl g2, g3, g4⟩

/-- A slice of slices, all filled, as a holder's lists. -/
theorem LRel.hl {w wr : World} {lo B n : Nat} {A : Nat → Option Addr} {ln : Nat → Nat} {E : Nat → Nat → E2} (h : LRel w wr 107 109 2 lo B n n A ln (fun j => ecell (E j))) (hB : lo ≤ B) :
    HL wr lo (some ⟨B, 0, none⟩) n A ln (mkL ln E) :=
  .inr ⟨B, rfl, hB, h.row.congr (fun _ hj => upto_lt _ _ _ _ hj), fun j hj => h.each j hj, fun i j hi hj => h.inj i j hi hj⟩

theorem hcell_set (vi vl vl' vo : Value) (j : Nat) : (if j = 3 then vl' else hcell vi vl vo j) = hcell vi vl' vo j := by
  by_cases e : j = 3
  · subst e; rfl
  · rw [if_neg e]
    unfold hcell
    split <;> first | rfl | (exact absurd rfl e)

theorem OwnI.setOther {w : World} {lo n B k b : Nat} {t : TypeId} {N : Nat} {f : Nat → Value} {a : Option Addr} {it : Nat → I3} (h : OwnI w 106 lo a n it) (hB : w.rowIs B t N f) (ht : 106 ≠ t) (hb : b = B) (v : Value) : OwnI (w.setCell ⟨b, k, none⟩ v) 106 lo a n it := by
  subst hb
  rcases h with h | ⟨b, h1, h2, h3⟩
  · exact .inl h
  · exact .inr ⟨b, h1, h2, h3.setOther (row_ne h3 hB ht) _⟩

set_option maxHeartbeats 1000000 in
set_option maxRecDepth 100000 in
theorem make_nn (it : Nat → I3) (ln : Nat → Nat) (E : Nat → Nat → E2) (bo nn : Nat) (LO : Nat → Int) (w : World) (lo : Nat) (hlo : lo ≤ w.heap.size) (hbo : lo ≤ bo) (ro : w.rowIs bo 21 nn (ncell LO)) :
    Calls Try.prog 39 #[.int .i32 0, .int .i32 0, .slice none 0 0, .slice none 0 0, .slice none 0 0, .slice none 0 0, .slice none 0 0, .slice (some ⟨bo, 0, none⟩) nn nn, .slice none 0 0, .int .i32 0] w fun e w' => ∃ hb, e = .returned (.pointer (some ⟨hb, 0, none⟩)) ∧ Holder w' lo hb 0 it 0 (mkL ln E) nn LO ∧ Below w.heap.size w w' := by
  have hh0 : (w.alloc (.cells #[.int .i32 0, .int .i32 0, .slice none 0 0, .slice none 0 0, (.slice (some ⟨bo, 0, none⟩) nn nn), .slice none 0 0, .int .i32 0] 104)).rowIs w.heap.size 104 7 (hcell (.slice none 0 0) (.slice none 0 0) (.slice (some ⟨bo, 0, none⟩) nn nn)) :=
    World.rowIs_alloc w #[.int .i32 0, .int .i32 0, .slice none 0 0, .slice none 0 0, (.slice (some ⟨bo, 0, none⟩) nn nn), .slice none 0 0, .int .i32 0] 104 (hcell (.slice none 0 0) (.slice none 0 0) (.slice (some ⟨bo, 0, none⟩) nn nn)) (fun i hi => by match i, hi with | 0, _ => rfl | 1, _ => rfl | 2, _ => rfl | 3, _ => rfl | 4, _ => rfl | 5, _ => rfl | 6, _ => rfl)
  have hb0 : Below w.heap.size w (w.alloc (.cells #[.int .i32 0, .int .i32 0, .slice none 0 0, .slice none 0 0, (.slice (some ⟨bo, 0, none⟩) nn nn), .slice none 0 0, .int .i32 0] 104)) := (Below.refl _ _).alloc (Nat.le_refl _) _
  go_enter Try.func39, Try.ntmps39
  have hh := hh0
  have HI : OwnI (w.alloc (.cells #[.int .i32 0, .int .i32 0, .slice none 0 0, .slice none 0 0, (.slice (some ⟨bo, 0, none⟩) nn nn), .slice none 0 0, .int .i32 0] 104)) 106 lo none 0 it := .inl ⟨rfl, rfl⟩
  have hbel := hb0
  clear hh0 hb0
  go_wp2
  go_ret
  exact ⟨_, rfl, ⟨none, none, fun _ => none, fun _ => 0, bo, hh, by omega, HI, .inl ⟨rfl, rfl⟩, hbo, row_below hbel ro ro.lt⟩, hbel⟩

set_option maxHeartbeats 1000000 in
set_option maxRecDepth 100000 in
theorem make_sn (be bw bs n : Nat) (it : Nat → I3) (ln : Nat → Nat) (E : Nat → Nat → E2) (bo nn : Nat) (LO : Nat → Int) (w : World) (hn : n ≤ 65536) (r1 : w.rowIs be 21 n (ncell fun j => (it j).1)) (r2 : w.rowIs bw 21 n (ncell fun j => (it j).2.1)) (r3 : w.rowIs bs 21 n (ncell fun j => (it j).2.2)) (lo : Nat) (hlo : lo ≤ w.heap.size) (hbo : lo ≤ bo) (ro : w.rowIs bo 21 nn (ncell LO)) :
    Calls Try.prog 39 #[.int .i32 0, .int .i32 0, .slice (some ⟨be, 0, none⟩) n n, .slice (some ⟨bw, 0, none⟩) n n, .slice (some ⟨bs, 0, none⟩) n n, .slice none 0 0, .slice none 0 0, .slice (some ⟨bo, 0, none⟩) nn nn, .slice none 0 0, .int .i32 0] w fun e w' => ∃ hb, e = .returned (.pointer (some ⟨hb, 0, none⟩)) ∧ Holder w' lo hb n it 0 (mkL ln E) nn LO ∧ Below w.heap.size w w' := by
  obtain ⟨C, hmk, hC1, hC2⟩ := run_make_ints (P := Try.prog) 101 106 3 12 _ Try.underlying101 info106 rfl (by decide) n (by omega) (by omega) (w.alloc (.cells #[.int .i32 0, .int .i32 0, .slice none 0 0, .slice none 0 0, (.slice (some ⟨bo, 0, none⟩) nn nn), .slice none 0 0, .int .i32 0] 104))
  have hh0 : ((w.alloc (.cells #[.int .i32 0, .int .i32 0, (.slice (some ⟨w.heap.size + 1, 0, none⟩) n n), .slice none 0 0, (.slice (some ⟨bo, 0, none⟩) nn nn), .slice none 0 0, .int .i32 0] 104)).alloc (.cells C 106)).rowIs w.heap.size 104 7 (hcell (.slice (some ⟨w.heap.size + 1, 0, none⟩) n n) (.slice none 0 0) (.slice (some ⟨bo, 0, none⟩) nn nn)) :=
    (World.rowIs_alloc w #[.int .i32 0, .int .i32 0, (.slice (some ⟨w.heap.size + 1, 0, none⟩) n n), .slice none 0 0, (.slice (some ⟨bo, 0, none⟩) nn nn), .slice none 0 0, .int .i32 0] 104 (hcell (.slice (some ⟨w.heap.size + 1, 0, none⟩) n n) (.slice none 0 0) (.slice (some ⟨bo, 0, none⟩) nn nn)) (fun i hi => by match i, hi with | 0, _ => rfl | 1, _ => rfl | 2, _ => rfl | 3, _ => rfl | 4, _ => rfl | 5, _ => rfl | 6, _ => rfl)).alloc _
  have hi0 := row_items (w := w.alloc (.cells #[.int .i32 0, .int .i32 0, (.slice (some ⟨w.heap.size + 1, 0, none⟩) n n), .slice none 0 0, (.slice (some ⟨bo, 0, none⟩) nn nn), .slice none 0 0, .int .i32 0] 104)) (t := 106) hC1 hC2 it
  have hb0 : Below w.heap.size w ((w.alloc (.cells #[.int .i32 0, .int .i32 0, (.slice (some ⟨w.heap.size + 1, 0, none⟩) n n), .slice none 0 0, (.slice (some ⟨bo, 0, none⟩) nn nn), .slice none 0 0, .int .i32 0] 104)).alloc (.cells C 106)) := ((Below.refl _ _).alloc (Nat.le_refl _) _).alloc (by simp) _
  simp only [World.size_alloc] at hi0
  clear hC1 hC2
  go_enter Try.func39, Try.ntmps39
  go_wp2
  go_loopw [46, 22] (fun i _ wr => ∃ k : Nat, k ≤ n ∧ i = .int .i64 k ∧ wr.rowIs w.heap.size 104 7 (hcell (.slice (some ⟨w.heap.size + 1, 0, none⟩) n n) (.slice none 0 0) (.slice (some ⟨bo, 0, none⟩) nn nn)) ∧ wr.rowIs (w.heap.size + 1) 106 (n * 3) (icell (upto k it (0, 0, 0))) ∧ Below w.heap.size w wr) (fun i _ _ => n - (intOf i).toNat)
  case atStart => exact ⟨0, Nat.zero_le _, rfl, hh0, hi0, hb0⟩
  case round =>
    obtain ⟨k, hk, rfl, hh, hi, hbel⟩ := hrel
    obtain ⟨V0, rfl⟩ : ∃ V, V = wr := ⟨wr, rfl⟩
    clear hh0 hi0 hb0 hmk
    by_cases hlt : k < n
    · have c0 : V0.cell? ⟨be, k, none⟩ = some (.int .i32 (it k).1) := (row_below hbel r1 r1.lt).cell hlt
      have c1 : V0.cell? ⟨bw, k, none⟩ = some (.int .i32 (it k).2.1) := (row_below hbel r2 r2.lt).cell hlt
      have c2 : V0.cell? ⟨bs, k, none⟩ = some (.int .i32 (it k).2.2) := (row_below hbel r3 r3.lt).cell hlt
      obtain ⟨z0, z1, z2⟩ := iget hi hlt
      have f0 := hi.frozen (k * 3)
      have f1 := hi.frozen (k * 3 + 1)
      have f2 := hi.frozen (k * 3 + 2)
      have h2 : V0.cell? ⟨w.heap.size, 2, none⟩ = some (.slice (some ⟨w.heap.size + 1, 0, none⟩) n n) := hh.cell (by decide)
      have R := iset3 hi k (it k)
      rw [upto_succ] at R
      have hne : w.heap.size ≠ w.heap.size + 1 := by omega
      have R2 := ((hh.setOther (a := ⟨w.heap.size + 1, k * 3, none⟩) hne (.int .i32 (it k).1)).setOther (a := ⟨w.heap.size + 1, k * 3 + 1, none⟩) hne (.int .i32 (it k).2.1)).setOther (a := ⟨w.heap.size + 1, k * 3 + 2, none⟩) hne (.int .i32 (it k).2.2)
      obtain ⟨y0, hy0⟩ : ∃ q, (upto k it (0, 0, 0) k).1 = q := ⟨_, rfl⟩
      obtain ⟨y1, hy1⟩ : ∃ q, (upto k it (0, 0, 0) k).2.1 = q := ⟨_, rfl⟩
      obtain ⟨y2, hy2⟩ : ∃ q, (upto k it (0, 0, 0) k).2.2 = q := ⟨_, rfl⟩
      rw [hy0] at z0
      rw [hy1] at z1
      rw [hy2] at z2
      obtain ⟨p0, hp0⟩ : ∃ q, (it k).1 = q := ⟨_, rfl⟩
      obtain ⟨p1, hp1⟩ : ∃ q, (it k).2.1 = q := ⟨_, rfl⟩
      obtain ⟨p2, hp2⟩ : ∃ q, (it k).2.2 = q := ⟨_, rfl⟩
      rw [hp0] at c0 R R2
      rw [hp1] at c1 R R2
      rw [hp2] at c2 R R2
      have HR : Hid (_ ∧ _) := And.intro R R2
      clear hh hi r1 r2 r3 hne R R2 hy0 hy1 hy2 hp0 hp1 hp2
      go_wp2
      go_region
      all_goals
        go_wp2
        go_roundw
        case rel => exact ⟨k + 1, by omega, by go_num, HR.out.2, HR.out.1, below_drewN (((hbel.setCell (p := ⟨w.heap.size + 1, _, none⟩) (Nat.le_succ _) _).setCell (p := ⟨w.heap.size + 1, _, none⟩) (Nat.le_succ _) _).setCell (p := ⟨w.heap.size + 1, _, none⟩) (Nat.le_succ _) _) 1⟩
        case measure => simp [intOf]; omega
    · have HI : OwnI V0 106 lo (some ⟨w.heap.size + 1, 0, none⟩) n it := .inr ⟨_, rfl, by omega, hi.congr (icell_congr fun x hx => upto_lt _ _ _ _ (by omega))⟩
      clear hi r1 r2 r3
      go_wp2
      go_ret
      exact ⟨_, rfl, ⟨(some ⟨w.heap.size + 1, 0, none⟩), none, fun _ => none, fun _ => 0, bo, hh, by omega, HI, .inl ⟨rfl, rfl⟩, hbo, row_below hbel ro ro.lt⟩, hbel⟩

set_option maxHeartbeats 1000000 in
set_option maxRecDepth 100000 in
theorem make_ns (it : Nat → I3) (b1 b2 nl : Nat) (A1 A2 : Nat → Option Addr) (ln : Nat → Nat) (E : Nat → Nat → E2) (bo nn : Nat) (LO : Nat → Int) (w : World) (hnl : nl ≤ 65536) (hln : ∀ j, j < nl → ln j ≤ 131072) (q1 : w.rowIs b1 35 nl (lv A1 ln ln)) (q2 : w.rowIs b2 35 nl (lv A2 ln ln)) (hE : ∀ a, a < nl → Two w (A1 a) (A2 a) (ln a) (E a)) (lo : Nat) (hlo : lo ≤ w.heap.size) (hbo : lo ≤ bo) (ro : w.rowIs bo 21 nn (ncell LO)) :
    Calls Try.prog 39 #[.int .i32 0, .int .i32 0, .slice none 0 0, .slice none 0 0, .slice none 0 0, .slice (some ⟨b1, 0, none⟩) nl nl, .slice (some ⟨b2, 0, none⟩) nl nl, .slice (some ⟨bo, 0, none⟩) nn nn, .slice none 0 0, .int .i32 0] w fun e w' => ∃ hb, e = .returned (.pointer (some ⟨hb, 0, none⟩)) ∧ Holder w' lo hb 0 it nl (mkL ln E) nn LO ∧ Below w.heap.size w w' := by
  have hh0 : (w.alloc (.cells #[.int .i32 0, .int .i32 0, .slice none 0 0, .slice none 0 0, (.slice (some ⟨bo, 0, none⟩) nn nn), .slice none 0 0, .int .i32 0] 104)).rowIs w.heap.size 104 7 (hcell (.slice none 0 0) (.slice none 0 0) (.slice (some ⟨bo, 0, none⟩) nn nn)) :=
    World.rowIs_alloc w #[.int .i32 0, .int .i32 0, .slice none 0 0, .slice none 0 0, (.slice (some ⟨bo, 0, none⟩) nn nn), .slice none 0 0, .int .i32 0] 104 (hcell (.slice none 0 0) (.slice none 0 0) (.slice (some ⟨bo, 0, none⟩) nn nn)) (fun i hi => by match i, hi with | 0, _ => rfl | 1, _ => rfl | 2, _ => rfl | 3, _ => rfl | 4, _ => rfl | 5, _ => rfl | 6, _ => rfl)
  have hb0 : Below w.heap.size w (w.alloc (.cells #[.int .i32 0, .int .i32 0, .slice none 0 0, .slice none 0 0, (.slice (some ⟨bo, 0, none⟩) nn nn), .slice none 0 0, .int .i32 0] 104)) := (Below.refl _ _).alloc (Nat.le_refl _) _
  have hmkL := run_make_row' (P := Try.prog) 102 107 (.slice none 0 0) 24 Try.underlying102 info107 rfl .i64 .i64 nl (by omega) (by omega)
  go_enter Try.func39, Try.ntmps39
  have hh := hh0
  have HI : OwnI (w.alloc (.cells #[.int .i32 0, .int .i32 0, .slice none 0 0, .slice none 0 0, (.slice (some ⟨bo, 0, none⟩) nn nn), .slice none 0 0, .int .i32 0] 104)) 106 lo none 0 it := .inl ⟨rfl, rfl⟩
  have hbel := hb0
  clear hh0 hb0
  obtain ⟨lb, hlb⟩ : ∃ lb, (w.alloc (.cells #[.int .i32 0, .int .i32 0, .slice none 0 0, .slice none 0 0, .slice (some ⟨bo, 0, none⟩) nn nn, .slice none 0 0, .int .i32 0] 104)).heap.size = lb := ⟨_, rfl⟩
  have hlbw : w.heap.size ≤ lb := by rw [← hlb]; exact hbel.size
  have hhlt : w.heap.size < lb := by rw [← hlb]; exact hh.lt
  have g3 : (w.alloc (.cells #[.int .i32 0, .int .i32 0, .slice none 0 0, .slice none 0 0, .slice (some ⟨bo, 0, none⟩) nn nn, .slice none 0 0, .int .i32 0] 104)).cell? ⟨w.heap.size, 3, none⟩ = some (.slice none 0 0) := hh.cell (by decide)
  have gf : (w.alloc (.cells #[.int .i32 0, .int .i32 0, .slice none 0 0, .slice none 0 0, .slice (some ⟨bo, 0, none⟩) nn nn, .slice none 0 0, .int .i32 0] 104)).frozen? ⟨w.heap.size, 3, none⟩ = false := hh.frozen 3
  have hh1 : ((w.alloc (.cells #[.int .i32 0, .int .i32 0, .slice none 0 0, .slice none 0 0, .slice (some ⟨bo, 0, none⟩) nn nn, .slice none 0 0, .int .i32 0] 104)).setCell ⟨w.heap.size, 3, none⟩ (.slice (some ⟨lb, 0, none⟩) nl nl)).rowIs w.heap.size 104 7 (hcell (.slice none 0 0) (.slice (some ⟨lb, 0, none⟩) nl nl) (.slice (some ⟨bo, 0, none⟩) nn nn)) := (hh.set 3 _).congr fun j _ => hcell_set _ _ _ _ j
  have hI1 : OwnI ((w.alloc (.cells #[.int .i32 0, .int .i32 0, .slice none 0 0, .slice none 0 0, .slice (some ⟨bo, 0, none⟩) nn nn, .slice none 0 0, .int .i32 0] 104)).setCell ⟨w.heap.size, 3, none⟩ (.slice (some ⟨lb, 0, none⟩) nl nl)) 106 lo none 0 it := HI.setOther hh (by decide) rfl _
  have hbl1 : Below w.heap.size w ((w.alloc (.cells #[.int .i32 0, .int .i32 0, .slice none 0 0, .slice none 0 0, .slice (some ⟨bo, 0, none⟩) nn nn, .slice none 0 0, .int .i32 0] 104)).setCell ⟨w.heap.size, 3, none⟩ (.slice (some ⟨lb, 0, none⟩) nl nl)) := hbel.setCell (p := ⟨w.heap.size, 3, none⟩) (Nat.le_refl _) _
  have hsz1 : ((w.alloc (.cells #[.int .i32 0, .int .i32 0, .slice none 0 0, .slice none 0 0, .slice (some ⟨bo, 0, none⟩) nn nn, .slice none 0 0, .int .i32 0] 104)).setCell ⟨w.heap.size, 3, none⟩ (.slice (some ⟨lb, 0, none⟩) nl nl)).heap.size = lb := by rw [← hlb]; simp [World.setCell]
  obtain ⟨W1, hW1⟩ : ∃ W1, (w.alloc (.cells #[.int .i32 0, .int .i32 0, .slice none 0 0, .slice none 0 0, .slice (some ⟨bo, 0, none⟩) nn nn, .slice none 0 0, .int .i32 0] 104)).setCell ⟨w.heap.size, 3, none⟩ (.slice (some ⟨lb, 0, none⟩) nl nl) = W1 := ⟨_, rfl⟩
  rw [hW1] at hh1 hI1 hbl1 hsz1
  have hL0 : LRel w (W1.alloc (.cells (madeCells #[.slice none 0 0] nl) 107)) 107 109 2 w.heap.size lb nl 0 (fun _ => none) ln (fun j => ecell (E j)) := by
    refine ⟨?_, fun j hj => absurd hj (Nat.not_lt_zero _), fun i j hi => absurd hi (Nat.not_lt_zero _), hbl1.alloc (by rw [hsz1]; exact hlbw) _⟩
    have := World.rowIs_made W1 (.slice none 0 0) nl 107
    rw [hsz1] at this
    exact this.congr fun i _ => by rw [upto_zero]
  have hh2 := hh1.alloc (.cells (madeCells #[.slice none 0 0] nl) 107)
  have hI2 := hI1.mono (w' := W1.alloc (.cells (madeCells #[.slice none 0 0] nl) 107)) ((Below.refl _ _).alloc (Nat.le_refl _) _)
  rw [← hW1] at hL0 hh2 hI2
  have HW : Hid ((w.alloc (.cells #[.int .i32 0, .int .i32 0, .slice none 0 0, .slice none 0 0, .slice (some ⟨bo, 0, none⟩) nn nn, .slice none 0 0, .int .i32 0] 104)).setCell ⟨w.heap.size, 3, none⟩ (.slice (some ⟨lb, 0, none⟩) nl nl) = W1) := hW1
  clear hW1 hh1 hI1 hbl1 hsz1 hh HI hbel HW
  have hst : (w.alloc (.cells #[.int .i32 0, .int .i32 0, .slice none 0 0, .slice none 0 0, .slice (some ⟨bo, 0, none⟩) nn nn, .slice none 0 0, .int .i32 0] 104)).setCell ⟨w.heap.size, 3, none⟩ (.slice (some ⟨lb, 0, none⟩) nl nl) = w.alloc (.cells #[.int .i32 0, .int .i32 0, .slice none 0 0, .slice (some ⟨lb, 0, none⟩) nl nl, .slice (some ⟨bo, 0, none⟩) nn nn, .slice none 0 0, .int .i32 0] 104) := by
    rw [World.setCell_alloc_at _ _ _ _ _ rfl]; rfl
  rw [hst] at hL0 hh2 hI2
  clear hst
  go_wp2
  go_loopw [79, 23] (fun i _ wr => ∃ (k : Nat) (A' : Nat → Option Addr), k ≤ nl ∧ i = .int .i64 k ∧ LRel w wr 107 109 2 w.heap.size lb nl k A' ln (fun j => ecell (E j)) ∧ wr.rowIs w.heap.size 104 7 (hcell (.slice none 0 0) (.slice (some ⟨lb, 0, none⟩) nl nl) (.slice (some ⟨bo, 0, none⟩) nn nn)) ∧ OwnI wr 106 lo none 0 it) (fun i _ _ => nl - (intOf i).toNat)
  case atStart => exact ⟨0, _, Nat.zero_le _, rfl, hL0, hh2, hI2⟩
  case round =>
    obtain ⟨k, A', hk, rfl, hL, hh, HI⟩ := hrel
    obtain ⟨V, rfl⟩ : ∃ V, V = wr := ⟨wr, rfl⟩
    clear hL0 hh2 hI2 hmkL
    by_cases hlt : k < nl
    · have c1 := (row_below hL.below q1 q1.lt).cell hlt
      have c2 := (row_below hL.below q2 q2.lt).cell hlt
      have h2 := hE k hlt
      have hl := hln k hlt
      have hsz : w.heap.size ≤ V.heap.size := hL.below.size
      have hb1 := q1.lt
      have hb2 := q2.lt
      unfold lv at c1 c2
      obtain ⟨l, hll⟩ : ∃ l, ln k = l := ⟨_, rfl⟩
      rcases h2 with ⟨e1, e2, e3⟩ | ⟨g1, g2, e1, e2, e3, e4⟩
      · rw [e1, e3] at c1
        rw [e2, e3] at c2
        have HN := hL.nil e3
        clear e1 e2 e3 hL hl hll
        go_wp2
        go_roundw
        case rel => exact ⟨k + 1, _, by omega, by go_num, HN, hh, HI⟩
        case measure => simp [intOf]; omega
      · rw [e1, hll] at c1
        rw [e2, hll] at c2
        rw [hll] at e3 e4 hl
        have HNW : Hid (∀ (wi : World), Below V.heap.size V wi → wi.rowIs V.heap.size 109 (l * 2) (ecell (E k)) → LRel w (wi.setCell ⟨lb, k, none⟩ (.slice (some ⟨V.heap.size, 0, none⟩) l l)) 107 109 2 w.heap.size lb nl (k + 1) (upd A' k (some ⟨V.heap.size, 0, none⟩)) ln (fun j => ecell (E j))) := fun wi hb hr => by
          have := hL.new (wi := wi) (by decide) hsz hlbw hb (by rw [hll]; exact hr)
          rw [hll] at this
          exact this
        have HSl : Hid (∀ (wi : World), Below V.heap.size V wi → wi.cell? ⟨lb, k, none⟩ = some (.slice none 0 0) ∧ wi.frozen? ⟨lb, k, none⟩ = false) := fun wi hb => hL.slot hlt hb
        have HB3 : Hid (∀ (wi : World), Below V.heap.size V wi → wi.cell? ⟨w.heap.size, 3, none⟩ = some (.slice (some ⟨lb, 0, none⟩) nl nl)) := fun wi hb => (row_all hb hh).cell (by decide)
        have HHH : Hid (∀ (wi : World) (v : Value), Below V.heap.size V wi → (wi.setCell ⟨lb, k, none⟩ v).rowIs w.heap.size 104 7 (hcell (.slice none 0 0) (.slice (some ⟨lb, 0, none⟩) nl nl) (.slice (some ⟨bo, 0, none⟩) nn nn)) ∧ OwnI (wi.setCell ⟨lb, k, none⟩ v) 106 lo none 0 it) := fun wi v hb =>
          ⟨(row_all hb hh).setOther (row_ne (row_all hb hh) (row_all hb hL.row) (by decide)) _, (HI.mono hb).setOther (row_all hb hL.row) (by decide) rfl _⟩
        have e3V := row_below hL.below e3 e3.lt
        have e4V := row_below hL.below e4 e4.lt
        obtain ⟨C2, hmk2, hC1, hC2⟩ := run_make_ints (P := Try.prog) 107 109 2 8 _ Try.underlying107 info109 rfl (by decide) l (by omega) (by omega) V
        have hr1 := row_entries (w := V) (t := 109) hC1 hC2 (E k)
        have hbv : Below V.heap.size V (V.alloc (.cells C2 109)) := (Below.refl _ _).alloc (Nat.le_refl _) _
        clear e1 e2 e3 e4 hll hL hh HI hC1 hC2
        go_wp2
        go_loopw [95, 25] (fun j _ wi => ∃ m : Nat, m ≤ l ∧ j = .int .i64 m ∧ wi.rowIs V.heap.size 109 (l * 2) (ecell (upto m (E k) (0, 0))) ∧ Below V.heap.size V wi) (fun j _ _ => l - (intOf j).toNat)
        case atStart => exact ⟨0, Nat.zero_le _, rfl, hr1, hbv⟩
        case round =>
          obtain ⟨wi, rfl⟩ : ∃ V, V = wr := ⟨wr, rfl⟩
          obtain ⟨m, hm, rfl, hrow, hbel⟩ := hrel
          clear hmk2 hr1 hbv
          have d1 : wi.cell? ⟨b1, k, none⟩ = some (.slice (some ⟨g1, 0, none⟩) l l) := (hbel.cell (p := ⟨b1, k, none⟩) (by show b1 < _; omega)).trans c1
          have d2 : wi.cell? ⟨b2, k, none⟩ = some (.slice (some ⟨g2, 0, none⟩) l l) := (hbel.cell (p := ⟨b2, k, none⟩) (by show b2 < _; omega)).trans c2
          clear c1 c2
          by_cases hml : m < l
          · have x1 : wi.cell? ⟨g1, m, none⟩ = some (.int .i32 (E k m).1) := (row_all hbel e3V).cell hml
            have x2 : wi.cell? ⟨g2, m, none⟩ = some (.int .i32 (E k m).2) := (row_all hbel e4V).cell hml
            have R := eset2 hrow m (E k m)
            rw [upto_succ] at R
            obtain ⟨z0, z1⟩ := eget hrow hml
            have f0 := hrow.frozen (m * 2)
            have f1 := hrow.frozen (m * 2 + 1)
            obtain ⟨y0, hy0⟩ : ∃ q, (upto m (E k) (0, 0) m).1 = q := ⟨_, rfl⟩
            obtain ⟨y1, hy1⟩ : ∃ q, (upto m (E k) (0, 0) m).2 = q := ⟨_, rfl⟩
            rw [hy0] at z0
            rw [hy1] at z1
            obtain ⟨p0, hp0⟩ : ∃ q, (E k m).1 = q := ⟨_, rfl⟩
            obtain ⟨p1, hp1⟩ : ∃ q, (E k m).2 = q := ⟨_, rfl⟩
            rw [hp0] at x1 R
            rw [hp1] at x2 R
            clear hy0 hy1 hp0 hp1 hrow HNW HSl HB3 HHH e3V e4V
            go_wp2
            go_region
            all_goals
              go_wp2
              go_roundw
              case rel => exact ⟨m + 1, by omega, by go_num, R, below_drewN ((hbel.setCell (p := ⟨V.heap.size, _, none⟩) (Nat.le_refl _) _).setCell (p := ⟨V.heap.size, _, none⟩) (Nat.le_refl _) _) 1⟩
              case measure => simp [intOf]; omega
          · obtain ⟨s1, s2⟩ := HSl.out _ hbel
            have s3 := HB3.out _ hbel
            have HR := HNW.out _ hbel (hrow.congr (ecell_congr fun x hx => upto_lt _ _ _ _ (by omega)))
            have HR2 := HHH.out wi (.slice (some ⟨V.heap.size, 0, none⟩) l l) hbel
            have HP := And.intro HR HR2
            have HQ : Hid (LRel w (wi.setCell ⟨lb, k, none⟩ (.slice (some ⟨V.heap.size, 0, none⟩) l l)) 107 109 2 w.heap.size lb nl (k + 1) (upd A' k (some ⟨V.heap.size, 0, none⟩)) ln (fun j => ecell (E j)) ∧ _ ∧ _) := HP
            clear HP HR HR2 HNW HSl HB3 HHH hrow e3V e4V
            go_wp2
            go_roundw
            case rel => exact ⟨k + 1, _, by omega, by go_num, HQ.out.1, HQ.out.2.1, HQ.out.2.2⟩
            case measure => simp [intOf]; omega
    · obtain rfl : k = nl := by omega
      go_wp2
      go_ret
      exact ⟨_, rfl, ⟨none, _, A', ln, bo, hh, by omega, HI, (hL.hl hlbw).lower hlo, hbo, row_below hL.below ro ro.lt⟩, hL.below⟩

set_option maxHeartbeats 1000000 in
set_option maxRecDepth 100000 in
theorem make_ss (be bw bs n : Nat) (it : Nat → I3) (b1 b2 nl : Nat) (A1 A2 : Nat → Option Addr) (ln : Nat → Nat) (E : Nat → Nat → E2) (bo nn : Nat) (LO : Nat → Int) (w : World) (hn : n ≤ 65536) (r1 : w.rowIs be 21 n (ncell fun j => (it j).1)) (r2 : w.rowIs bw 21 n (ncell fun j => (it j).2.1)) (r3 : w.rowIs bs 21 n (ncell fun j => (it j).2.2)) (hnl : nl ≤ 65536) (hln : ∀ j, j < nl → ln j ≤ 131072) (q1 : w.rowIs b1 35 nl (lv A1 ln ln)) (q2 : w.rowIs b2 35 nl (lv A2 ln ln)) (hE : ∀ a, a < nl → Two w (A1 a) (A2 a) (ln a) (E a)) (lo : Nat) (hlo : lo ≤ w.heap.size) (hbo : lo ≤ bo) (ro : w.rowIs bo 21 nn (ncell LO)) :
    Calls Try.prog 39 #[.int .i32 0, .int .i32 0, .slice (some ⟨be, 0, none⟩) n n, .slice (some ⟨bw, 0, none⟩) n n, .slice (some ⟨bs, 0, none⟩) n n, .slice (some ⟨b1, 0, none⟩) nl nl, .slice (some ⟨b2, 0, none⟩) nl nl, .slice (some ⟨bo, 0, none⟩) nn nn, .slice none 0 0, .int .i32 0] w fun e w' => ∃ hb, e = .returned (.pointer (some ⟨hb, 0, none⟩)) ∧ Holder w' lo hb n it nl (mkL ln E) nn LO ∧ Below w.heap.size w w' := by
  obtain ⟨C, hmk, hC1, hC2⟩ := run_make_ints (P := Try.prog) 101 106 3 12 _ Try.underlying101 info106 rfl (by decide) n (by omega) (by omega) (w.alloc (.cells #[.int .i32 0, .int .i32 0, .slice none 0 0, .slice none 0 0, (.slice (some ⟨bo, 0, none⟩) nn nn), .slice none 0 0, .int .i32 0] 104))
  have hh0 : ((w.alloc (.cells #[.int .i32 0, .int .i32 0, (.slice (some ⟨w.heap.size + 1, 0, none⟩) n n), .slice none 0 0, (.slice (some ⟨bo, 0, none⟩) nn nn), .slice none 0 0, .int .i32 0] 104)).alloc (.cells C 106)).rowIs w.heap.size 104 7 (hcell (.slice (some ⟨w.heap.size + 1, 0, none⟩) n n) (.slice none 0 0) (.slice (some ⟨bo, 0, none⟩) nn nn)) :=
    (World.rowIs_alloc w #[.int .i32 0, .int .i32 0, (.slice (some ⟨w.heap.size + 1, 0, none⟩) n n), .slice none 0 0, (.slice (some ⟨bo, 0, none⟩) nn nn), .slice none 0 0, .int .i32 0] 104 (hcell (.slice (some ⟨w.heap.size + 1, 0, none⟩) n n) (.slice none 0 0) (.slice (some ⟨bo, 0, none⟩) nn nn)) (fun i hi => by match i, hi with | 0, _ => rfl | 1, _ => rfl | 2, _ => rfl | 3, _ => rfl | 4, _ => rfl | 5, _ => rfl | 6, _ => rfl)).alloc _
  have hi0 := row_items (w := w.alloc (.cells #[.int .i32 0, .int .i32 0, (.slice (some ⟨w.heap.size + 1, 0, none⟩) n n), .slice none 0 0, (.slice (some ⟨bo, 0, none⟩) nn nn), .slice none 0 0, .int .i32 0] 104)) (t := 106) hC1 hC2 it
  have hb0 : Below w.heap.size w ((w.alloc (.cells #[.int .i32 0, .int .i32 0, (.slice (some ⟨w.heap.size + 1, 0, none⟩) n n), .slice none 0 0, (.slice (some ⟨bo, 0, none⟩) nn nn), .slice none 0 0, .int .i32 0] 104)).alloc (.cells C 106)) := ((Below.refl _ _).alloc (Nat.le_refl _) _).alloc (by simp) _
  simp only [World.size_alloc] at hi0
  clear hC1 hC2
  have hmkL := run_make_row' (P := Try.prog) 102 107 (.slice none 0 0) 24 Try.underlying102 info107 rfl .i64 .i64 nl (by omega) (by omega)
  go_enter Try.func39, Try.ntmps39
  go_wp2
  go_loopw [46, 22] (fun i _ wr => ∃ k : Nat, k ≤ n ∧ i = .int .i64 k ∧ wr.rowIs w.heap.size 104 7 (hcell (.slice (some ⟨w.heap.size + 1, 0, none⟩) n n) (.slice none 0 0) (.slice (some ⟨bo, 0, none⟩) nn nn)) ∧ wr.rowIs (w.heap.size + 1) 106 (n * 3) (icell (upto k it (0, 0, 0))) ∧ Below w.heap.size w wr) (fun i _ _ => n - (intOf i).toNat)
  case atStart => exact ⟨0, Nat.zero_le _, rfl, hh0, hi0, hb0⟩
  case round =>
    obtain ⟨k, hk, rfl, hh, hi, hbel⟩ := hrel
    obtain ⟨V0, rfl⟩ : ∃ V, V = wr := ⟨wr, rfl⟩
    clear hh0 hi0 hb0 hmk
    by_cases hlt : k < n
    · have c0 : V0.cell? ⟨be, k, none⟩ = some (.int .i32 (it k).1) := (row_below hbel r1 r1.lt).cell hlt
      have c1 : V0.cell? ⟨bw, k, none⟩ = some (.int .i32 (it k).2.1) := (row_below hbel r2 r2.lt).cell hlt
      have c2 : V0.cell? ⟨bs, k, none⟩ = some (.int .i32 (it k).2.2) := (row_below hbel r3 r3.lt).cell hlt
      obtain ⟨z0, z1, z2⟩ := iget hi hlt
      have f0 := hi.frozen (k * 3)
      have f1 := hi.frozen (k * 3 + 1)
      have f2 := hi.frozen (k * 3 + 2)
      have h2 : V0.cell? ⟨w.heap.size, 2, none⟩ = some (.slice (some ⟨w.heap.size + 1, 0, none⟩) n n) := hh.cell (by decide)
      have R := iset3 hi k (it k)
      rw [upto_succ] at R
      have hne : w.heap.size ≠ w.heap.size + 1 := by omega
      have R2 := ((hh.setOther (a := ⟨w.heap.size + 1, k * 3, none⟩) hne (.int .i32 (it k).1)).setOther (a := ⟨w.heap.size + 1, k * 3 + 1, none⟩) hne (.int .i32 (it k).2.1)).setOther (a := ⟨w.heap.size + 1, k * 3 + 2, none⟩) hne (.int .i32 (it k).2.2)
      obtain ⟨y0, hy0⟩ : ∃ q, (upto k it (0, 0, 0) k).1 = q := ⟨_, rfl⟩
      obtain ⟨y1, hy1⟩ : ∃ q, (upto k it (0, 0, 0) k).2.1 = q := ⟨_, rfl⟩
      obtain ⟨y2, hy2⟩ : ∃ q, (upto k it (0, 0, 0) k).2.2 = q := ⟨_, rfl⟩
      rw [hy0] at z0
      rw [hy1] at z1
      rw [hy2] at z2
      obtain ⟨p0, hp0⟩ : ∃ q, (it k).1 = q := ⟨_, rfl⟩
      obtain ⟨p1, hp1⟩ : ∃ q, (it k).2.1 = q := ⟨_, rfl⟩
      obtain ⟨p2, hp2⟩ : ∃ q, (it k).2.2 = q := ⟨_, rfl⟩
      rw [hp0] at c0 R R2
      rw [hp1] at c1 R R2
      rw [hp2] at c2 R R2
      have HR : Hid (_ ∧ _) := And.intro R R2
      clear hh hi r1 r2 r3 hne R R2 hy0 hy1 hy2 hp0 hp1 hp2
      go_wp2
      go_region
      all_goals
        go_wp2
        go_roundw
        case rel => exact ⟨k + 1, by omega, by go_num, HR.out.2, HR.out.1, below_drewN (((hbel.setCell (p := ⟨w.heap.size + 1, _, none⟩) (Nat.le_succ _) _).setCell (p := ⟨w.heap.size + 1, _, none⟩) (Nat.le_succ _) _).setCell (p := ⟨w.heap.size + 1, _, none⟩) (Nat.le_succ _) _) 1⟩
        case measure => simp [intOf]; omega
    · have HI : OwnI V0 106 lo (some ⟨w.heap.size + 1, 0, none⟩) n it := .inr ⟨_, rfl, by omega, hi.congr (icell_congr fun x hx => upto_lt _ _ _ _ (by omega))⟩
      clear hi r1 r2 r3
      obtain ⟨lb, hlb⟩ : ∃ lb, (V0).heap.size = lb := ⟨_, rfl⟩
      have hlbw : w.heap.size ≤ lb := by rw [← hlb]; exact hbel.size
      have hhlt : w.heap.size < lb := by rw [← hlb]; exact hh.lt
      have g3 : (V0).cell? ⟨w.heap.size, 3, none⟩ = some (.slice none 0 0) := hh.cell (by decide)
      have gf : (V0).frozen? ⟨w.heap.size, 3, none⟩ = false := hh.frozen 3
      have hh1 : ((V0).setCell ⟨w.heap.size, 3, none⟩ (.slice (some ⟨lb, 0, none⟩) nl nl)).rowIs w.heap.size 104 7 (hcell (.slice (some ⟨w.heap.size + 1, 0, none⟩) n n) (.slice (some ⟨lb, 0, none⟩) nl nl) (.slice (some ⟨bo, 0, none⟩) nn nn)) := (hh.set 3 _).congr fun j _ => hcell_set _ _ _ _ j
      have hI1 : OwnI ((V0).setCell ⟨w.heap.size, 3, none⟩ (.slice (some ⟨lb, 0, none⟩) nl nl)) 106 lo (some ⟨w.heap.size + 1, 0, none⟩) n it := HI.setOther hh (by decide) rfl _
      have hbl1 : Below w.heap.size w ((V0).setCell ⟨w.heap.size, 3, none⟩ (.slice (some ⟨lb, 0, none⟩) nl nl)) := hbel.setCell (p := ⟨w.heap.size, 3, none⟩) (Nat.le_refl _) _
      have hsz1 : ((V0).setCell ⟨w.heap.size, 3, none⟩ (.slice (some ⟨lb, 0, none⟩) nl nl)).heap.size = lb := by rw [← hlb]; simp [World.setCell]
      obtain ⟨W1, hW1⟩ : ∃ W1, (V0).setCell ⟨w.heap.size, 3, none⟩ (.slice (some ⟨lb, 0, none⟩) nl nl) = W1 := ⟨_, rfl⟩
      rw [hW1] at hh1 hI1 hbl1 hsz1
      have hL0 : LRel w (W1.alloc (.cells (madeCells #[.slice none 0 0] nl) 107)) 107 109 2 w.heap.size lb nl 0 (fun _ => none) ln (fun j => ecell (E j)) := by
        refine ⟨?_, fun j hj => absurd hj (Nat.not_lt_zero _), fun i j hi => absurd hi (Nat.not_lt_zero _), hbl1.alloc (by rw [hsz1]; exact hlbw) _⟩
        have := World.rowIs_made W1 (.slice none 0 0) nl 107
        rw [hsz1] at this
        exact this.congr fun i _ => by rw [upto_zero]
      have hh2 := hh1.alloc (.cells (madeCells #[.slice none 0 0] nl) 107)
      have hI2 := hI1.mono (w' := W1.alloc (.cells (madeCells #[.slice none 0 0] nl) 107)) ((Below.refl _ _).alloc (Nat.le_refl _) _)
      rw [← hW1] at hL0 hh2 hI2
      have HW : Hid ((V0).setCell ⟨w.heap.size, 3, none⟩ (.slice (some ⟨lb, 0, none⟩) nl nl) = W1) := hW1
      clear hW1 hh1 hI1 hbl1 hsz1 hh HI hbel HW
      go_wp2
      go_loopw [79, 23] (fun i _ wr => ∃ (k : Nat) (A' : Nat → Option Addr), k ≤ nl ∧ i = .int .i64 k ∧ LRel w wr 107 109 2 w.heap.size lb nl k A' ln (fun j => ecell (E j)) ∧ wr.rowIs w.heap.size 104 7 (hcell (.slice (some ⟨w.heap.size + 1, 0, none⟩) n n) (.slice (some ⟨lb, 0, none⟩) nl nl) (.slice (some ⟨bo, 0, none⟩) nn nn)) ∧ OwnI wr 106 lo (some ⟨w.heap.size + 1, 0, none⟩) n it) (fun i _ _ => nl - (intOf i).toNat)
      case atStart => exact ⟨0, _, Nat.zero_le _, rfl, hL0, hh2, hI2⟩
      case round =>
        obtain ⟨k, A', hk, rfl, hL, hh, HI⟩ := hrel
        obtain ⟨V, rfl⟩ : ∃ V, V = wr := ⟨wr, rfl⟩
        clear hL0 hh2 hI2 hmkL
        by_cases hlt : k < nl
        · have c1 := (row_below hL.below q1 q1.lt).cell hlt
          have c2 := (row_below hL.below q2 q2.lt).cell hlt
          have h2 := hE k hlt
          have hl := hln k hlt
          have hsz : w.heap.size ≤ V.heap.size := hL.below.size
          have hb1 := q1.lt
          have hb2 := q2.lt
          unfold lv at c1 c2
          obtain ⟨l, hll⟩ : ∃ l, ln k = l := ⟨_, rfl⟩
          rcases h2 with ⟨e1, e2, e3⟩ | ⟨g1, g2, e1, e2, e3, e4⟩
          · rw [e1, e3] at c1
            rw [e2, e3] at c2
            have HN := hL.nil e3
            clear e1 e2 e3 hL hl hll
            go_wp2
            go_roundw
            case rel => exact ⟨k + 1, _, by omega, by go_num, HN, hh, HI⟩
            case measure => simp [intOf]; omega
          · rw [e1, hll] at c1
            rw [e2, hll] at c2
            rw [hll] at e3 e4 hl
            have HNW : Hid (∀ (wi : World), Below V.heap.size V wi → wi.rowIs V.heap.size 109 (l * 2) (ecell (E k)) → LRel w (wi.setCell ⟨lb, k, none⟩ (.slice (some ⟨V.heap.size, 0, none⟩) l l)) 107 109 2 w.heap.size lb nl (k + 1) (upd A' k (some ⟨V.heap.size, 0, none⟩)) ln (fun j => ecell (E j))) := fun wi hb hr => by
              have := hL.new (wi := wi) (by decide) hsz hlbw hb (by rw [hll]; exact hr)
              rw [hll] at this
              exact this
            have HSl : Hid (∀ (wi : World), Below V.heap.size V wi → wi.cell? ⟨lb, k, none⟩ = some (.slice none 0 0) ∧ wi.frozen? ⟨lb, k, none⟩ = false) := fun wi hb => hL.slot hlt hb
            have HB3 : Hid (∀ (wi : World), Below V.heap.size V wi → wi.cell? ⟨w.heap.size, 3, none⟩ = some (.slice (some ⟨lb, 0, none⟩) nl nl)) := fun wi hb => (row_all hb hh).cell (by decide)
            have HHH : Hid (∀ (wi : World) (v : Value), Below V.heap.size V wi → (wi.setCell ⟨lb, k, none⟩ v).rowIs w.heap.size 104 7 (hcell (.slice (some ⟨w.heap.size + 1, 0, none⟩) n n) (.slice (some ⟨lb, 0, none⟩) nl nl) (.slice (some ⟨bo, 0, none⟩) nn nn)) ∧ OwnI (wi.setCell ⟨lb, k, none⟩ v) 106 lo (some ⟨w.heap.size + 1, 0, none⟩) n it) := fun wi v hb =>
              ⟨(row_all hb hh).setOther (row_ne (row_all hb hh) (row_all hb hL.row) (by decide)) _, (HI.mono hb).setOther (row_all hb hL.row) (by decide) rfl _⟩
            have e3V := row_below hL.below e3 e3.lt
            have e4V := row_below hL.below e4 e4.lt
            obtain ⟨C2, hmk2, hC1, hC2⟩ := run_make_ints (P := Try.prog) 107 109 2 8 _ Try.underlying107 info109 rfl (by decide) l (by omega) (by omega) V
            have hr1 := row_entries (w := V) (t := 109) hC1 hC2 (E k)
            have hbv : Below V.heap.size V (V.alloc (.cells C2 109)) := (Below.refl _ _).alloc (Nat.le_refl _) _
            clear e1 e2 e3 e4 hll hL hh HI hC1 hC2
            go_wp2
            go_loopw [95, 25] (fun j _ wi => ∃ m : Nat, m ≤ l ∧ j = .int .i64 m ∧ wi.rowIs V.heap.size 109 (l * 2) (ecell (upto m (E k) (0, 0))) ∧ Below V.heap.size V wi) (fun j _ _ => l - (intOf j).toNat)
            case atStart => exact ⟨0, Nat.zero_le _, rfl, hr1, hbv⟩
            case round =>
              obtain ⟨wi, rfl⟩ : ∃ V, V = wr := ⟨wr, rfl⟩
              obtain ⟨m, hm, rfl, hrow, hbel⟩ := hrel
              clear hmk2 hr1 hbv
              have d1 : wi.cell? ⟨b1, k, none⟩ = some (.slice (some ⟨g1, 0, none⟩) l l) := (hbel.cell (p := ⟨b1, k, none⟩) (by show b1 < _; omega)).trans c1
              have d2 : wi.cell? ⟨b2, k, none⟩ = some (.slice (some ⟨g2, 0, none⟩) l l) := (hbel.cell (p := ⟨b2, k, none⟩) (by show b2 < _; omega)).trans c2
              clear c1 c2
              by_cases hml : m < l
              · have x1 : wi.cell? ⟨g1, m, none⟩ = some (.int .i32 (E k m).1) := (row_all hbel e3V).cell hml
                have x2 : wi.cell? ⟨g2, m, none⟩ = some (.int .i32 (E k m).2) := (row_all hbel e4V).cell hml
                have R := eset2 hrow m (E k m)
                rw [upto_succ] at R
                obtain ⟨z0, z1⟩ := eget hrow hml
                have f0 := hrow.frozen (m * 2)
                have f1 := hrow.frozen (m * 2 + 1)
                obtain ⟨y0, hy0⟩ : ∃ q, (upto m (E k) (0, 0) m).1 = q := ⟨_, rfl⟩
                obtain ⟨y1, hy1⟩ : ∃ q, (upto m (E k) (0, 0) m).2 = q := ⟨_, rfl⟩
                rw [hy0] at z0
                rw [hy1] at z1
                obtain ⟨p0, hp0⟩ : ∃ q, (E k m).1 = q := ⟨_, rfl⟩
                obtain ⟨p1, hp1⟩ : ∃ q, (E k m).2 = q := ⟨_, rfl⟩
                rw [hp0] at x1 R
                rw [hp1] at x2 R
                clear hy0 hy1 hp0 hp1 hrow HNW HSl HB3 HHH e3V e4V
                go_wp2
                go_region
                all_goals
                  go_wp2
                  go_roundw
                  case rel => exact ⟨m + 1, by omega, by go_num, R, below_drewN ((hbel.setCell (p := ⟨V.heap.size, _, none⟩) (Nat.le_refl _) _).setCell (p := ⟨V.heap.size, _, none⟩) (Nat.le_refl _) _) 1⟩
                  case measure => simp [intOf]; omega
              · obtain ⟨s1, s2⟩ := HSl.out _ hbel
                have s3 := HB3.out _ hbel
                have HR := HNW.out _ hbel (hrow.congr (ecell_congr fun x hx => upto_lt _ _ _ _ (by omega)))
                have HR2 := HHH.out wi (.slice (some ⟨V.heap.size, 0, none⟩) l l) hbel
                have HP := And.intro HR HR2
                have HQ : Hid (LRel w (wi.setCell ⟨lb, k, none⟩ (.slice (some ⟨V.heap.size, 0, none⟩) l l)) 107 109 2 w.heap.size lb nl (k + 1) (upd A' k (some ⟨V.heap.size, 0, none⟩)) ln (fun j => ecell (E j)) ∧ _ ∧ _) := HP
                clear HP HR HR2 HNW HSl HB3 HHH hrow e3V e4V
                go_wp2
                go_roundw
                case rel => exact ⟨k + 1, _, by omega, by go_num, HQ.out.1, HQ.out.2.1, HQ.out.2.2⟩
                case measure => simp [intOf]; omega
        · obtain rfl : k = nl := by omega
          go_wp2
          go_ret
          exact ⟨_, rfl, ⟨(some ⟨w.heap.size + 1, 0, none⟩), _, A', ln, bo, hh, by omega, HI, (hL.hl hlbw).lower hlo, hbo, row_below hL.below ro ro.lt⟩, hL.below⟩

end Go.Proofs.Qxb6605516a
