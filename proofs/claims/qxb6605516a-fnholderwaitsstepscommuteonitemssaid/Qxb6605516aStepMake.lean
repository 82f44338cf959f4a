import Derived.Test.Qxb6605516aMake
namespace Go.Proofs.Qxb6605516a
open Go.RowKit Go.Deep
open Pl (I3 E2 Ls upd upd_same upd_other)

/-- ZZHolderWaitsMake, whatever is nil. -/
theorem make_any (ae aw az a1 a2 : Option Addr) (n nl bo nn : Nat) (it : Nat → I3) (ln : Nat → Nat) (E : Nat → Nat → E2) (LO : Nat → Int) (w : World) (hn : n ≤ 65536) (hnl : nl ≤ 65536) (hln : ∀ j, j < nl → ln j ≤ 131072)
    (h3 : In3 w ae aw az n it) (h2 : In2 w a1 a2 nl ln E) (lo : Nat) (hlo : lo ≤ w.heap.size) (hbo : lo ≤ bo) (ro : w.rowIs bo 21 nn (ncell LO)) :
    Calls Try.prog 39 #[.int .i32 0, .int .i32 0, .slice ae n n, .slice aw n n, .slice az n n, .slice a1 nl nl, .slice a2 nl nl, .slice (some ⟨bo, 0, none⟩) nn nn, .slice none 0 0, .int .i32 0] w fun e w' =>
      ∃ hb, e = .returned (.pointer (some ⟨hb, 0, none⟩)) ∧ Holder w' lo hb n it nl (mkL ln E) nn LO ∧ Below w.heap.size w w' := by
  rcases h3 with ⟨rfl, rfl, rfl, rfl⟩ | ⟨be, bw, bs, rfl, rfl, rfl, r1, r2, r3⟩
  · rcases h2 with ⟨rfl, rfl, rfl⟩ | ⟨b1, b2, A1, A2, rfl, rfl, q1, q2, hE⟩
    · exact make_nn it ln E bo nn LO w lo hlo hbo ro
    · exact make_ns it b1 b2 nl A1 A2 ln E bo nn LO w hnl hln q1 q2 hE lo hlo hbo ro
  · rcases h2 with ⟨rfl, rfl, rfl⟩ | ⟨b1, b2, A1, A2, rfl, rfl, q1, q2, hE⟩
    · exact make_sn be bw bs n it ln E bo nn LO w hn r1 r2 r3 lo hlo hbo ro
    · exact make_ss be bw bs n it b1 b2 nl A1 A2 ln E bo nn LO w hn r1 r2 r3 hnl hln q1 q2 hE lo hlo hbo ro

/-- Two slices of rows that are being filled side by side. -/
structure L2 (w wr : World) (lo B1 B2 n k : Nat) (A1 A2 : Nat → Option Addr) (ln : Nat → Nat) (E : Nat → Nat → E2) : Prop where
  row1 : wr.rowIs B1 35 n (upto k (lv A1 ln ln) (.slice none 0 0))
  row2 : wr.rowIs B2 35 n (upto k (lv A2 ln ln) (.slice none 0 0))
  each : ∀ j, j < k → Two wr (A1 j) (A2 j) (ln j) (E j)
  below : Below lo w wr

section
variable {w wr wi : World} {lo B1 B2 n k : Nat} {A1 A2 : Nat → Option Addr} {ln : Nat → Nat} {E : Nat → Nat → E2}

theorem L2.nil (h : L2 w wr lo B1 B2 n k A1 A2 ln E) (h0 : ln k = 0) : L2 w wr lo B1 B2 n (k + 1) (upd A1 k none) (upd A2 k none) ln E := by
  have key : ∀ (A : Nat → Option Addr) (j : Nat), upto k (lv A ln ln) (.slice none 0 0) j = upto (k + 1) (lv (upd A k none) ln ln) (.slice none 0 0) j := fun A j => by
    rw [upto_lv]
    by_cases e : j = k
    · subst e; rw [if_pos rfl, h0]; unfold upto; rw [if_neg (by omega)]
    · rw [if_neg e]
  refine ⟨h.row1.congr fun j _ => key A1 j, h.row2.congr fun j _ => key A2 j, fun j hj => ?_, h.below⟩
  by_cases e : j = k
  · subst e; rw [upd_same, upd_same]; exact .inl ⟨rfl, rfl, h0⟩
  · rw [upd_other _ _ _ _ e, upd_other _ _ _ _ e]; exact h.each j (by omega)

theorem L2.new (h : L2 w wr lo B1 B2 n k A1 A2 ln E) (hlo : lo ≤ wr.heap.size) (h1 : lo ≤ B1) (h2 : lo ≤ B2) (h12 : B1 ≠ B2) (G1 G2 : Nat) (hb : Below wr.heap.size wr wi)
    (r1 : wi.rowIs G1 21 (ln k) (ncell fun j => (E k j).1)) (r2 : wi.rowIs G2 21 (ln k) (ncell fun j => (E k j).2)) :
    L2 w ((wi.setCell ⟨B1, k, none⟩ (.slice (some ⟨G1, 0, none⟩) (ln k) (ln k))).setCell ⟨B2, k, none⟩ (.slice (some ⟨G2, 0, none⟩) (ln k) (ln k))) lo B1 B2 n (k + 1) (upd A1 k (some ⟨G1, 0, none⟩)) (upd A2 k (some ⟨G2, 0, none⟩)) ln E := by
  have R1 := row_all hb h.row1
  have R2 := row_all hb h.row2
  have keep : ∀ {b m : Nat} {f : Nat → Value}, wi.rowIs b 21 m f → ((wi.setCell ⟨B1, k, none⟩ (.slice (some ⟨G1, 0, none⟩) (ln k) (ln k))).setCell ⟨B2, k, none⟩ (.slice (some ⟨G2, 0, none⟩) (ln k) (ln k))).rowIs b 21 m f := fun hr =>
    (hr.setOther (row_ne hr R1 (by decide)) _).setOther (row_ne hr R2 (by decide)) _
  refine ⟨((R1.set k _).setOther (a := ⟨B2, k, none⟩) h12 _).congr fun j _ => by rw [upto_lv], ((R2.setOther (a := ⟨B1, k, none⟩) (Ne.symm h12) _).set k _).congr fun j _ => by rw [upto_lv], fun j hj => ?_, ?_⟩
  · by_cases e : j = k
    · subst e
      rw [upd_same, upd_same]
      exact .inr ⟨G1, G2, rfl, rfl, keep r1, keep r2⟩
    · rw [upd_other _ _ _ _ e, upd_other _ _ _ _ e]
      rcases (h.each j (by omega)).mono hb with hh | ⟨b1, b2, g1, g2, g3, g4⟩
      · exact .inl hh
      · exact .inr ⟨b1, b2, g1, g2, keep g3, keep g4⟩
  · exact ((h.below.trans (hb.mono hlo)).setCell (p := ⟨B1, k, none⟩) h1 _).setCell (p := ⟨B2, k, none⟩) h2 _

theorem L2.slots (h : L2 w wr lo B1 B2 n k A1 A2 ln E) (hk : k < n) (hb : Below wr.heap.size wr wi) :
    wi.cell? ⟨B1, k, none⟩ = some (.slice none 0 0) ∧ wi.frozen? ⟨B1, k, none⟩ = false ∧ wi.cell? ⟨B2, k, none⟩ = some (.slice none 0 0) ∧ wi.frozen? ⟨B2, k, none⟩ = false := by
  have R1 := row_all hb h.row1
  have R2 := row_all hb h.row2
  refine ⟨?_, R1.frozen k, ?_, R2.frozen k⟩
  · rw [R1.cell hk]; unfold upto; rw [if_neg (Nat.lt_irrefl _)]
  · rw [R2.cell hk]; unfold upto; rw [if_neg (Nat.lt_irrefl _)]
end

set_option maxHeartbeats 1000000 in
set_option maxRecDepth 100000 in
theorem sm_nn (it : Nat → I3) (ln : Nat → Nat) (E : Nat → Nat → E2) (bo nn : Nat) (LO : Nat → Int) (w : World) (hnn : nn ≤ 65536) (ro : w.rowIs bo 21 nn (ncell LO)) :
    Calls Try.prog 26 #[.int .i32 0, .int .i32 0, .slice none 0 0, .slice none 0 0, .slice (some ⟨bo, 0, none⟩) nn nn, .slice none 0 0, .int .i32 0] w fun e w' => ∃ hb, e = .returned (.pointer (some ⟨hb, 0, none⟩)) ∧ Holder w' w.heap.size hb 0 it 0 (mkL ln E) nn LO ∧ Below w.heap.size w w' := by
  go_enter Try.func26, Try.ntmps26
  have hbelW : Below w.heap.size w w := Below.refl _ _
  have hI3 : In3 w none none none 0 it := .inl ⟨rfl, rfl, rfl, rfl⟩
  have hI2 : In2 (w) none none 0 ln E := .inl ⟨rfl, rfl, rfl⟩
  have roW := row_below hbelW ro ro.lt
  have ck : ∀ j, j < nn → (w).cell? ⟨bo, 0 + j, none⟩ = some (.int .i32 (LO j)) := fun j hj => by rw [Nat.zero_add]; exact roW.cell hj
  have HB : Hid (Below w.heap.size w (w)) := hbelW
  have H3 : Hid (In3 (w) none none none 0 it) := hI3
  have H2 : Hid (In2 (w) none none 0 ln E) := hI2
  have hcl := cloneN_some bo 0 nn nn LO (w) hnn roW.lt ck
  clear roW ck hI3 hI2
  have HB' : Hid (Below w.heap.size w (w)) := hbelW
  clear hbelW HB'
  go_wp2_with fail
  refine hcl.mono ?_
  rintro e W1 ⟨rfl, hrow, hb1⟩
  clear hcl
  have HR : Hid (W1.rowIs (w).heap.size 21 nn (ncell LO)) := hrow
  have HB1 : Hid (Below (w).heap.size (w) W1) := hb1
  clear hrow hb1
  go_wp2_with fail
  refine (cloneN_nil W1).mono ?_
  rintro e w' ⟨rfl, hw⟩
  obtain rfl := hw.symm
  go_wp2_with fail
  have hmake := make_any none none none none none 0 0 (w).heap.size nn it ln E LO W1 (by decide) (by decide) (fun j hj => absurd hj (Nat.not_lt_zero _)) (H3.out.mono HB1.out) (H2.out.mono HB1.out) w.heap.size (by have h1 := HB.out.size; have h2 := HB1.out.size; omega) HB.out.size HR.out
  refine hmake.mono ?_
  rintro e W2 ⟨hb, rfl, hH, hb2⟩
  have HF : Hid (Holder W2 w.heap.size hb 0 it 0 (mkL ln E) nn LO ∧ Below w.heap.size w W2) := ⟨hH, (HB.out.trans (HB1.out.mono HB.out.size)).trans (hb2.mono (by have h1 := HB.out.size; have h2 := HB1.out.size; omega))⟩
  clear hmake hH hb2
  go_wp2
  go_ret
  exact ⟨hb, rfl, HF.out.1, HF.out.2⟩

set_option maxHeartbeats 1000000 in
set_option maxRecDepth 100000 in
theorem sm_sn (bi n : Nat) (it : Nat → I3) (ln : Nat → Nat) (E : Nat → Nat → E2) (bo nn : Nat) (LO : Nat → Int) (w : World) (hn : n ≤ 65536) (r0 : w.rowIs bi 62 (n * 3) (icell it)) (hnn : nn ≤ 65536) (ro : w.rowIs bo 21 nn (ncell LO)) :
    Calls Try.prog 26 #[.int .i32 0, .int .i32 0, .slice (some ⟨bi, 0, none⟩) n n, .slice none 0 0, .slice (some ⟨bo, 0, none⟩) nn nn, .slice none 0 0, .int .i32 0] w fun e w' => ∃ hb, e = .returned (.pointer (some ⟨hb, 0, none⟩)) ∧ Holder w' w.heap.size hb n it 0 (mkL ln E) nn LO ∧ Below w.heap.size w w' := by
  have hmk := run_make_row' (P := Try.prog) 35 21 (.int .i32 0) 4 Try.underlying35 info21 rfl .i64 .i64 n (by omega) (by omega)
  have s1 : (((w.alloc (.cells (madeCells #[.int .i32 0] n) 21)).alloc (.cells (madeCells #[.int .i32 0] n) 21)).alloc (.cells (madeCells #[.int .i32 0] n) 21)).rowIs w.heap.size 21 n (ncell (upto 0 (fun j => (it j).1) 0)) := (((World.rowIs_made w (.int .i32 0) n 21).alloc _).alloc _).congr fun i _ => by simp [ncell, upto]
  have s2 : (((w.alloc (.cells (madeCells #[.int .i32 0] n) 21)).alloc (.cells (madeCells #[.int .i32 0] n) 21)).alloc (.cells (madeCells #[.int .i32 0] n) 21)).rowIs (w.heap.size + 1) 21 n (ncell (upto 0 (fun j => (it j).2.1) 0)) := by
    have := (World.rowIs_made (w.alloc (.cells (madeCells #[.int .i32 0] n) 21)) (.int .i32 0) n 21).alloc (.cells (madeCells #[.int .i32 0] n) 21)
    simp only [World.size_alloc] at this
    exact this.congr fun i _ => by simp [ncell, upto]
  have s3 : (((w.alloc (.cells (madeCells #[.int .i32 0] n) 21)).alloc (.cells (madeCells #[.int .i32 0] n) 21)).alloc (.cells (madeCells #[.int .i32 0] n) 21)).rowIs (w.heap.size + 2) 21 n (ncell (upto 0 (fun j => (it j).2.2) 0)) := by
    have := World.rowIs_made ((w.alloc (.cells (madeCells #[.int .i32 0] n) 21)).alloc (.cells (madeCells #[.int .i32 0] n) 21)) (.int .i32 0) n 21
    simp only [World.size_alloc] at this
    exact this.congr fun i _ => by simp [ncell, upto]
  have sb : Below w.heap.size w (((w.alloc (.cells (madeCells #[.int .i32 0] n) 21)).alloc (.cells (madeCells #[.int .i32 0] n) 21)).alloc (.cells (madeCells #[.int .i32 0] n) 21)) := (((Below.refl _ _).alloc (Nat.le_refl _) _).alloc (by simp) _).alloc (by simp; omega) _
  go_enter Try.func26, Try.ntmps26
  go_wp2
  go_loopw [18] (fun i wr => ∃ k : Nat, k ≤ n ∧ i = .int .i64 k ∧ wr.rowIs w.heap.size 21 n (ncell (upto k (fun j => (it j).1) 0)) ∧ wr.rowIs (w.heap.size + 1) 21 n (ncell (upto k (fun j => (it j).2.1) 0)) ∧ wr.rowIs (w.heap.size + 2) 21 n (ncell (upto k (fun j => (it j).2.2) 0)) ∧ Below w.heap.size w wr) (fun i _ => n - (intOf i).toNat)
  case atStart => exact ⟨0, Nat.zero_le _, rfl, s1, s2, s3, sb⟩
  case round =>
    obtain ⟨k0, hk0, rfl, hr1, hr2, hr3, hbelW⟩ := hrel
    obtain ⟨V0, rfl⟩ : ∃ V, V = wr := ⟨wr, rfl⟩
    clear s1 s2 s3 sb hmk
    by_cases hlt : k0 < n
    · obtain ⟨x0, x1, x2⟩ := iget (row_below hbelW r0 r0.lt) hlt
      have hbi := r0.lt
      have n1 : bi ≠ w.heap.size := by omega
      have n2 : bi ≠ w.heap.size + 1 := by omega
      have n3 : bi ≠ w.heap.size + 2 := by omega
      have R1 := ((nset hr1).setOther (a := ⟨w.heap.size + 1, k0, none⟩) (show w.heap.size ≠ w.heap.size + 1 by omega) (.int .i32 (it k0).2.1)).setOther (a := ⟨w.heap.size + 2, k0, none⟩) (show w.heap.size ≠ w.heap.size + 2 by omega) (.int .i32 (it k0).2.2)
      have R2 := (nset (k := k0) (hr2.setOther (a := ⟨w.heap.size, k0, none⟩) (show w.heap.size + 1 ≠ w.heap.size by omega) (.int .i32 (it k0).1))).setOther (a := ⟨w.heap.size + 2, k0, none⟩) (show w.heap.size + 1 ≠ w.heap.size + 2 by omega) (.int .i32 (it k0).2.2)
      have R3 := nset (k := k0) ((hr3.setOther (a := ⟨w.heap.size, k0, none⟩) (show w.heap.size + 2 ≠ w.heap.size by omega) (.int .i32 (it k0).1)).setOther (a := ⟨w.heap.size + 1, k0, none⟩) (show w.heap.size + 2 ≠ w.heap.size + 1 by omega) (.int .i32 (it k0).2.1))
      have z1 := hr1.cell hlt
      have z2 := hr2.cell hlt
      have z3 := hr3.cell hlt
      have f1 := hr1.frozen k0
      have f2 := hr2.frozen k0
      have f3 := hr3.frozen k0
      unfold ncell at z1 z2 z3
      obtain ⟨y0, hy0⟩ : ∃ q, upto k0 (fun j => (it j).1) 0 k0 = q := ⟨_, rfl⟩
      obtain ⟨y1, hy1⟩ : ∃ q, upto k0 (fun j => (it j).2.1) 0 k0 = q := ⟨_, rfl⟩
      obtain ⟨y2, hy2⟩ : ∃ q, upto k0 (fun j => (it j).2.2) 0 k0 = q := ⟨_, rfl⟩
      rw [hy0] at z1
      rw [hy1] at z2
      rw [hy2] at z3
      obtain ⟨p0, hp0⟩ : ∃ q, (it k0).1 = q := ⟨_, rfl⟩
      obtain ⟨p1, hp1⟩ : ∃ q, (it k0).2.1 = q := ⟨_, rfl⟩
      obtain ⟨p2, hp2⟩ : ∃ q, (it k0).2.2 = q := ⟨_, rfl⟩
      rw [hp0] at x0 R1 R2 R3
      rw [hp1] at x1 R1 R2 R3
      rw [hp2] at x2 R1 R2 R3
      have HR : Hid (_ ∧ _ ∧ _) := And.intro R1 (And.intro R2 R3)
      clear hy0 hy1 hy2 hp0 hp1 hp2 hr1 hr2 hr3 R1 R2 R3
      go_wp2
      go_roundw
      case rel => exact ⟨k0 + 1, by omega, by go_num, HR.out.1, HR.out.2.1, HR.out.2.2, ((hbelW.setCell (p := ⟨w.heap.size, _, none⟩) (Nat.le_refl _) _).setCell (p := ⟨w.heap.size + 1, _, none⟩) (Nat.le_succ _) _).setCell (p := ⟨w.heap.size + 2, _, none⟩) (Nat.le_add_right _ _) _⟩
      case measure => simp [intOf]; omega
    · obtain rfl : k0 = n := by omega
      have hI3 : In3 V0 (some ⟨w.heap.size, 0, none⟩) (some ⟨w.heap.size + 1, 0, none⟩) (some ⟨w.heap.size + 2, 0, none⟩) k0 it := .inr ⟨_, _, _, rfl, rfl, rfl, hr1.congr (fun i hi => by unfold ncell; rw [upto_lt _ _ _ _ hi]), hr2.congr (fun i hi => by unfold ncell; rw [upto_lt _ _ _ _ hi]), hr3.congr (fun i hi => by unfold ncell; rw [upto_lt _ _ _ _ hi])⟩
      clear hr1 hr2 hr3
      have hI2 : In2 (V0) none none 0 ln E := .inl ⟨rfl, rfl, rfl⟩
      have roW := row_below hbelW ro ro.lt
      have ck : ∀ j, j < nn → (V0).cell? ⟨bo, 0 + j, none⟩ = some (.int .i32 (LO j)) := fun j hj => by rw [Nat.zero_add]; exact roW.cell hj
      have HB : Hid (Below w.heap.size w (V0)) := hbelW
      have H3 : Hid (In3 (V0) (some ⟨w.heap.size, 0, none⟩) (some ⟨w.heap.size + 1, 0, none⟩) (some ⟨w.heap.size + 2, 0, none⟩) k0 it) := hI3
      have H2 : Hid (In2 (V0) none none 0 ln E) := hI2
      have hcl := cloneN_some bo 0 nn nn LO (V0) hnn roW.lt ck
      clear roW ck hI3 hI2
      have HB' : Hid (Below w.heap.size w (V0)) := hbelW
      clear hbelW HB'
      go_wp2_with fail
      refine hcl.mono ?_
      rintro e W1 ⟨rfl, hrow, hb1⟩
      clear hcl
      have HR : Hid (W1.rowIs (V0).heap.size 21 nn (ncell LO)) := hrow
      have HB1 : Hid (Below (V0).heap.size (V0) W1) := hb1
      clear hrow hb1
      go_wp2_with fail
      refine (cloneN_nil W1).mono ?_
      rintro e w' ⟨rfl, hw⟩
      obtain rfl := hw.symm
      go_wp2_with fail
      have hmake := make_any (some ⟨w.heap.size, 0, none⟩) (some ⟨w.heap.size + 1, 0, none⟩) (some ⟨w.heap.size + 2, 0, none⟩) none none k0 0 (V0).heap.size nn it ln E LO W1 hn (by decide) (fun j hj => absurd hj (Nat.not_lt_zero _)) (H3.out.mono HB1.out) (H2.out.mono HB1.out) w.heap.size (by have h1 := HB.out.size; have h2 := HB1.out.size; omega) HB.out.size HR.out
      refine hmake.mono ?_
      rintro e W2 ⟨hb, rfl, hH, hb2⟩
      have HF : Hid (Holder W2 w.heap.size hb k0 it 0 (mkL ln E) nn LO ∧ Below w.heap.size w W2) := ⟨hH, (HB.out.trans (HB1.out.mono HB.out.size)).trans (hb2.mono (by have h1 := HB.out.size; have h2 := HB1.out.size; omega))⟩
      clear hmake hH hb2
      go_wp2
      go_ret
      exact ⟨hb, rfl, HF.out.1, HF.out.2⟩

set_option maxHeartbeats 1000000 in
set_option maxRecDepth 100000 in
theorem sm_ns (it : Nat → I3) (bl nl : Nat) (A : Nat → Option Addr) (ln : Nat → Nat) (E : Nat → Nat → E2) (bo nn : Nat) (LO : Nat → Int) (w : World) (hnl : nl ≤ 65536) (hln : ∀ j, j < nl → ln j ≤ 131072) (q0 : w.rowIs bl 64 nl (lv A ln ln)) (lo : Nat) (hE : ∀ a, a < nl → OwnE w 66 lo (A a) (ln a) (ln a) (E a)) (hnn : nn ≤ 65536) (ro : w.rowIs bo 21 nn (ncell LO)) :
    Calls Try.prog 26 #[.int .i32 0, .int .i32 0, .slice none 0 0, .slice (some ⟨bl, 0, none⟩) nl nl, .slice (some ⟨bo, 0, none⟩) nn nn, .slice none 0 0, .int .i32 0] w fun e w' => ∃ hb, e = .returned (.pointer (some ⟨hb, 0, none⟩)) ∧ Holder w' w.heap.size hb 0 it nl (mkL ln E) nn LO ∧ Below w.heap.size w w' := by
  have hmk2 := run_make_row' (P := Try.prog) 55 35 (.slice none 0 0) 24 Try.underlying55 info35 rfl .i64 .i64 nl (by omega) (by omega)
  have hq2 := fun (w : World) (a : Option Addr) (n c : Nat) => Lib.run_eql_slice_nil (P := Try.prog) w 64 66 a n c 0 0 Try.underlying64
  go_enter Try.func26, Try.ntmps26
  have hbelW : Below w.heap.size w w := Below.refl _ _
  have hI3 : In3 w none none none 0 it := .inl ⟨rfl, rfl, rfl, rfl⟩
  obtain ⟨X, hX⟩ : ∃ X, (w).heap.size = X := ⟨_, rfl⟩
  have hXw : w.heap.size ≤ X := by rw [← hX]; exact hbelW.size
  have l1 : (((w).alloc (.cells (madeCells #[.slice none 0 0] nl) 35)).alloc (.cells (madeCells #[.slice none 0 0] nl) 35)).rowIs X 35 nl (upto 0 (lv (fun _ => none) ln ln) (.slice none 0 0)) := by
    have := (World.rowIs_made (w) (.slice none 0 0) nl 35).alloc (.cells (madeCells #[.slice none 0 0] nl) 35)
    rw [hX] at this
    exact this.congr fun i _ => by rw [upto_zero]
  have l2 : (((w).alloc (.cells (madeCells #[.slice none 0 0] nl) 35)).alloc (.cells (madeCells #[.slice none 0 0] nl) 35)).rowIs (X + 1) 35 nl (upto 0 (lv (fun _ => none) ln ln) (.slice none 0 0)) := by
    have := World.rowIs_made ((w).alloc (.cells (madeCells #[.slice none 0 0] nl) 35)) (.slice none 0 0) nl 35
    simp only [World.size_alloc] at this
    rw [hX] at this
    exact this.congr fun i _ => by rw [upto_zero]
  have hL0 : L2 (w) (((w).alloc (.cells (madeCells #[.slice none 0 0] nl) 35)).alloc (.cells (madeCells #[.slice none 0 0] nl) 35)) X X (X + 1) nl 0 (fun _ => none) (fun _ => none) ln E :=
    ⟨l1, l2, fun j hj => absurd hj (Nat.not_lt_zero _), ((Below.refl _ _).alloc (by omega) _).alloc (by simp; omega) _⟩
  clear l1 l2
  have HB0 : Hid (Below w.heap.size w (w)) := hbelW
  have HI3 : Hid (In3 (w) none none none 0 it) := hI3
  have HX : Hid ((w).heap.size = X) := hX
  clear hI3
  have qW := row_below hbelW q0 q0.lt
  have hblX : bl < X := by have := q0.lt; omega
  have hEW : Hid (∀ a, a < nl → OwnE (w) 66 lo (A a) (ln a) (ln a) (E a)) := fun a ha => by
    rcases hE a ha with h | ⟨b, h1, h2, h3, h4⟩
    · exact .inl h
    · exact .inr ⟨b, h1, h2, h3, row_below hbelW h4 h4.lt⟩
  clear hbelW
  go_wp2
  go_loopw [21] (fun i wr => ∃ (k : Nat) (A1 A2 : Nat → Option Addr), k ≤ nl ∧ i = .int .i64 k ∧ L2 (w) wr X X (X + 1) nl k A1 A2 ln E) (fun i _ => nl - (intOf i).toNat)
  case atStart => exact ⟨0, _, _, Nat.zero_le _, rfl, hL0⟩
  case round =>
    obtain ⟨k, A1, A2, hk, rfl, hL⟩ := hrel
    obtain ⟨V, rfl⟩ : ∃ V, V = wr := ⟨wr, rfl⟩
    clear hL0 hmk2
    by_cases hlt : k < nl
    · have c1 : V.cell? ⟨bl, k, none⟩ = some (.slice (A k) (ln k) (ln k)) := (row_below hL.below qW (by omega)).cell hlt
      have hsz : X ≤ V.heap.size := by have := hL.below.size; rw [HX.out] at this; exact this
      have hl := hln k hlt
      have h2 := hEW.out k hlt
      obtain ⟨l, hll⟩ : ∃ l, ln k = l := ⟨_, rfl⟩
      rcases h2 with ⟨e1, e2, _⟩ | ⟨g, e1, _, _, e4⟩
      · rw [e1, e2] at c1
        have HN := hL.nil e2
        clear e1 e2 hL hl hll
        go_wp2
        go_roundw
        case rel => exact ⟨k + 1, _, _, by omega, by go_num, HN⟩
        case measure => simp [intOf]; omega
      · have e4V := row_below hL.below e4 (by have := e4.lt; rw [HX.out] at this; exact this)
        rw [e1, hll] at c1
        rw [hll] at e4V hl
        have HNW : Hid (∀ (wi : World), Below V.heap.size V wi → wi.rowIs V.heap.size 21 l (ncell fun j => (E k j).1) → wi.rowIs (V.heap.size + 1) 21 l (ncell fun j => (E k j).2) → L2 (w) ((wi.setCell ⟨X, k, none⟩ (.slice (some ⟨V.heap.size, 0, none⟩) l l)).setCell ⟨X + 1, k, none⟩ (.slice (some ⟨V.heap.size + 1, 0, none⟩) l l)) X X (X + 1) nl (k + 1) (upd A1 k (some ⟨V.heap.size, 0, none⟩)) (upd A2 k (some ⟨V.heap.size + 1, 0, none⟩)) ln E) := fun wi hb h1 h2 => by
          have := hL.new (wi := wi) hsz (Nat.le_refl _) (Nat.le_succ _) (by omega) V.heap.size (V.heap.size + 1) hb (by rw [hll]; exact h1) (by rw [hll]; exact h2)
          rw [hll] at this
          exact this
        have HSl : Hid (∀ (wi : World), Below V.heap.size V wi → wi.cell? ⟨X, k, none⟩ = some (.slice none 0 0) ∧ wi.frozen? ⟨X, k, none⟩ = false ∧ wi.cell? ⟨X + 1, k, none⟩ = some (.slice none 0 0) ∧ wi.frozen? ⟨X + 1, k, none⟩ = false) := fun wi hb => hL.slots hlt hb
        have hmk3 := run_make_row' (P := Try.prog) 35 21 (.int .i32 0) 4 Try.underlying35 info21 rfl .i64 .i64 l (by omega) (by omega)
        have t1 : ((V.alloc (.cells (madeCells #[.int .i32 0] l) 21)).alloc (.cells (madeCells #[.int .i32 0] l) 21)).rowIs V.heap.size 21 l (ncell (upto 0 (fun j => (E k j).1) 0)) := ((World.rowIs_made V (.int .i32 0) l 21).alloc _).congr fun i _ => by simp [ncell, upto]
        have t2 : ((V.alloc (.cells (madeCells #[.int .i32 0] l) 21)).alloc (.cells (madeCells #[.int .i32 0] l) 21)).rowIs (V.heap.size + 1) 21 l (ncell (upto 0 (fun j => (E k j).2) 0)) := by
          have := World.rowIs_made (V.alloc (.cells (madeCells #[.int .i32 0] l) 21)) (.int .i32 0) l 21
          simp only [World.size_alloc] at this
          exact this.congr fun i _ => by simp [ncell, upto]
        have hbv : Below V.heap.size V ((V.alloc (.cells (madeCells #[.int .i32 0] l) 21)).alloc (.cells (madeCells #[.int .i32 0] l) 21)) := ((Below.refl _ _).alloc (Nat.le_refl _) _).alloc (by simp) _
        have hblV : bl < V.heap.size := by omega
        have hgV := e4V.lt
        have cA : ∀ o, (V.alloc o).cell? ⟨bl, k, none⟩ = some (.slice (some ⟨g, 0, none⟩) l l) := fun o => (Below.cell (B := V.heap.size) ((Below.refl _ _).alloc (Nat.le_refl _) o) hblV).trans c1
        clear e1 e4 hll hL
        go_wp2
        go_loopw [24] (fun j wi => ∃ m : Nat, m ≤ l ∧ j = .int .i64 m ∧ wi.rowIs V.heap.size 21 l (ncell (upto m (fun j => (E k j).1) 0)) ∧ wi.rowIs (V.heap.size + 1) 21 l (ncell (upto m (fun j => (E k j).2) 0)) ∧ Below V.heap.size V wi) (fun j _ => l - (intOf j).toNat)
        case atStart => exact ⟨0, Nat.zero_le _, rfl, t1, t2, hbv⟩
        case round =>
          obtain ⟨wi, rfl⟩ : ∃ V, V = wr := ⟨wr, rfl⟩
          obtain ⟨m, hm, rfl, hr1, hr2, hbel⟩ := hrel
          clear hmk3 t1 t2 hbv cA hq2
          have d1 : wi.cell? ⟨bl, k, none⟩ = some (.slice (some ⟨g, 0, none⟩) l l) := (hbel.cell (p := ⟨bl, k, none⟩) hblV).trans c1
          clear c1
          by_cases hml : m < l
          · obtain ⟨x0, x1⟩ := eget (row_all hbel e4V) hml
            have R1 := (nset hr1).setOther (a := ⟨V.heap.size + 1, m, none⟩) (show V.heap.size ≠ V.heap.size + 1 by omega) (.int .i32 (E k m).2)
            have R2 := nset (k := m) (hr2.setOther (a := ⟨V.heap.size, m, none⟩) (show V.heap.size + 1 ≠ V.heap.size by omega) (.int .i32 (E k m).1))
            have z1 := hr1.cell hml
            have z2 := hr2.cell hml
            have f1 := hr1.frozen m
            have f2 := hr2.frozen m
            unfold ncell at z1 z2
            obtain ⟨y0, hy0⟩ : ∃ q, upto m (fun j => (E k j).1) 0 m = q := ⟨_, rfl⟩
            obtain ⟨y1, hy1⟩ : ∃ q, upto m (fun j => (E k j).2) 0 m = q := ⟨_, rfl⟩
            rw [hy0] at z1
            rw [hy1] at z2
            obtain ⟨p0, hp0⟩ : ∃ q, (E k m).1 = q := ⟨_, rfl⟩
            obtain ⟨p1, hp1⟩ : ∃ q, (E k m).2 = q := ⟨_, rfl⟩
            rw [hp0] at x0 R1 R2
            rw [hp1] at x1 R1 R2
            have n1 : bl ≠ V.heap.size := by omega
            have n2 : bl ≠ V.heap.size + 1 := by omega
            have n3 : g ≠ V.heap.size := by omega
            have n4 : g ≠ V.heap.size + 1 := by omega
            have HR : Hid (_ ∧ _) := And.intro R1 R2
            clear hy0 hy1 hp0 hp1 hr1 hr2 HNW HSl R1 R2 e4V
            go_wp2
            go_roundw
            case rel => exact ⟨m + 1, by omega, by go_num, HR.out.1, HR.out.2, (hbel.setCell (p := ⟨V.heap.size, _, none⟩) (Nat.le_refl _) _).setCell (p := ⟨V.heap.size + 1, _, none⟩) (Nat.le_succ _) _⟩
            case measure => simp [intOf]; omega
          · obtain ⟨s1, s2, s3, s4⟩ := HSl.out _ hbel
            have HQ : Hid (L2 (w) ((wi.setCell ⟨X, k, none⟩ (.slice (some ⟨V.heap.size, 0, none⟩) l l)).setCell ⟨X + 1, k, none⟩ (.slice (some ⟨V.heap.size + 1, 0, none⟩) l l)) X X (X + 1) nl (k + 1) (upd A1 k (some ⟨V.heap.size, 0, none⟩)) (upd A2 k (some ⟨V.heap.size + 1, 0, none⟩)) ln E) :=
              HNW.out _ hbel (hr1.congr fun i hi => by unfold ncell; rw [upto_lt _ _ _ _ (by omega)]) (hr2.congr fun i hi => by unfold ncell; rw [upto_lt _ _ _ _ (by omega)])
            clear HNW HSl hr1 hr2 e4V
            go_wp2
            go_roundw
            case rel => exact ⟨k + 1, _, _, by omega, by go_num, HQ.out⟩
            case measure => simp [intOf]; omega
    · obtain rfl : k = nl := by omega
      have hI2 : In2 V (some ⟨X, 0, none⟩) (some ⟨X + 1, 0, none⟩) k ln E := .inr ⟨X, X + 1, A1, A2, rfl, rfl, hL.row1.congr (fun j hj => upto_lt _ _ _ _ hj), hL.row2.congr (fun j hj => upto_lt _ _ _ _ hj), hL.each⟩
      have hbX := hL.below
      rw [← HX.out] at hbX
      have hI3 : In3 V none none none 0 it := HI3.out.mono hbX
      have hbelW : Below w.heap.size w V := HB0.out.trans (hbX.mono HB0.out.size)
      clear hL hbX hq2
      have roW := row_below hbelW ro ro.lt
      have ck : ∀ j, j < nn → (V).cell? ⟨bo, 0 + j, none⟩ = some (.int .i32 (LO j)) := fun j hj => by rw [Nat.zero_add]; exact roW.cell hj
      have HB : Hid (Below w.heap.size w (V)) := hbelW
      have H3 : Hid (In3 (V) none none none 0 it) := hI3
      have H2 : Hid (In2 (V) (some ⟨X, 0, none⟩) (some ⟨X + 1, 0, none⟩) k ln E) := hI2
      have hcl := cloneN_some bo 0 nn nn LO (V) hnn roW.lt ck
      clear roW ck hI3 hI2
      have HB' : Hid (Below w.heap.size w (V)) := hbelW
      clear hbelW HB'
      go_wp2_with fail
      refine hcl.mono ?_
      rintro e W1 ⟨rfl, hrow, hb1⟩
      clear hcl
      have HR : Hid (W1.rowIs (V).heap.size 21 nn (ncell LO)) := hrow
      have HB1 : Hid (Below (V).heap.size (V) W1) := hb1
      clear hrow hb1
      go_wp2_with fail
      refine (cloneN_nil W1).mono ?_
      rintro e w' ⟨rfl, hw⟩
      obtain rfl := hw.symm
      go_wp2_with fail
      have hmake := make_any none none none (some ⟨X, 0, none⟩) (some ⟨X + 1, 0, none⟩) 0 k (V).heap.size nn it ln E LO W1 (by decide) hnl hln (H3.out.mono HB1.out) (H2.out.mono HB1.out) w.heap.size (by have h1 := HB.out.size; have h2 := HB1.out.size; omega) HB.out.size HR.out
      refine hmake.mono ?_
      rintro e W2 ⟨hb, rfl, hH, hb2⟩
      have HF : Hid (Holder W2 w.heap.size hb 0 it k (mkL ln E) nn LO ∧ Below w.heap.size w W2) := ⟨hH, (HB.out.trans (HB1.out.mono HB.out.size)).trans (hb2.mono (by have h1 := HB.out.size; have h2 := HB1.out.size; omega))⟩
      clear hmake hH hb2
      go_wp2
      go_ret
      exact ⟨hb, rfl, HF.out.1, HF.out.2⟩

set_option maxHeartbeats 1000000 in
set_option maxRecDepth 100000 in
theorem sm_ss (bi n : Nat) (it : Nat → I3) (bl nl : Nat) (A : Nat → Option Addr) (ln : Nat → Nat) (E : Nat → Nat → E2) (bo nn : Nat) (LO : Nat → Int) (w : World) (hn : n ≤ 65536) (r0 : w.rowIs bi 62 (n * 3) (icell it)) (hnl : nl ≤ 65536) (hln : ∀ j, j < nl → ln j ≤ 131072) (q0 : w.rowIs bl 64 nl (lv A ln ln)) (lo : Nat) (hE : ∀ a, a < nl → OwnE w 66 lo (A a) (ln a) (ln a) (E a)) (hnn : nn ≤ 65536) (ro : w.rowIs bo 21 nn (ncell LO)) :
    Calls Try.prog 26 #[.int .i32 0, .int .i32 0, .slice (some ⟨bi, 0, none⟩) n n, .slice (some ⟨bl, 0, none⟩) nl nl, .slice (some ⟨bo, 0, none⟩) nn nn, .slice none 0 0, .int .i32 0] w fun e w' => ∃ hb, e = .returned (.pointer (some ⟨hb, 0, none⟩)) ∧ Holder w' w.heap.size hb n it nl (mkL ln E) nn LO ∧ Below w.heap.size w w' := by
  have hmk := run_make_row' (P := Try.prog) 35 21 (.int .i32 0) 4 Try.underlying35 info21 rfl .i64 .i64 n (by omega) (by omega)
  have s1 : (((w.alloc (.cells (madeCells #[.int .i32 0] n) 21)).alloc (.cells (madeCells #[.int .i32 0] n) 21)).alloc (.cells (madeCells #[.int .i32 0] n) 21)).rowIs w.heap.size 21 n (ncell (upto 0 (fun j => (it j).1) 0)) := (((World.rowIs_made w (.int .i32 0) n 21).alloc _).alloc _).congr fun i _ => by simp [ncell, upto]
  have s2 : (((w.alloc (.cells (madeCells #[.int .i32 0] n) 21)).alloc (.cells (madeCells #[.int .i32 0] n) 21)).alloc (.cells (madeCells #[.int .i32 0] n) 21)).rowIs (w.heap.size + 1) 21 n (ncell (upto 0 (fun j => (it j).2.1) 0)) := by
    have := (World.rowIs_made (w.alloc (.cells (madeCells #[.int .i32 0] n) 21)) (.int .i32 0) n 21).alloc (.cells (madeCells #[.int .i32 0] n) 21)
    simp only [World.size_alloc] at this
    exact this.congr fun i _ => by simp [ncell, upto]
  have s3 : (((w.alloc (.cells (madeCells #[.int .i32 0] n) 21)).alloc (.cells (madeCells #[.int .i32 0] n) 21)).alloc (.cells (madeCells #[.int .i32 0] n) 21)).rowIs (w.heap.size + 2) 21 n (ncell (upto 0 (fun j => (it j).2.2) 0)) := by
    have := World.rowIs_made ((w.alloc (.cells (madeCells #[.int .i32 0] n) 21)).alloc (.cells (madeCells #[.int .i32 0] n) 21)) (.int .i32 0) n 21
    simp only [World.size_alloc] at this
    exact this.congr fun i _ => by simp [ncell, upto]
  have sb : Below w.heap.size w (((w.alloc (.cells (madeCells #[.int .i32 0] n) 21)).alloc (.cells (madeCells #[.int .i32 0] n) 21)).alloc (.cells (madeCells #[.int .i32 0] n) 21)) := (((Below.refl _ _).alloc (Nat.le_refl _) _).alloc (by simp) _).alloc (by simp; omega) _
  have hmk2 := run_make_row' (P := Try.prog) 55 35 (.slice none 0 0) 24 Try.underlying55 info35 rfl .i64 .i64 nl (by omega) (by omega)
  have hq2 := fun (w : World) (a : Option Addr) (n c : Nat) => Lib.run_eql_slice_nil (P := Try.prog) w 64 66 a n c 0 0 Try.underlying64
  go_enter Try.func26, Try.ntmps26
  go_wp2
  go_loopw [18] (fun i wr => ∃ k : Nat, k ≤ n ∧ i = .int .i64 k ∧ wr.rowIs w.heap.size 21 n (ncell (upto k (fun j => (it j).1) 0)) ∧ wr.rowIs (w.heap.size + 1) 21 n (ncell (upto k (fun j => (it j).2.1) 0)) ∧ wr.rowIs (w.heap.size + 2) 21 n (ncell (upto k (fun j => (it j).2.2) 0)) ∧ Below w.heap.size w wr) (fun i _ => n - (intOf i).toNat)
  case atStart => exact ⟨0, Nat.zero_le _, rfl, s1, s2, s3, sb⟩
  case round =>
    obtain ⟨k0, hk0, rfl, hr1, hr2, hr3, hbelW⟩ := hrel
    obtain ⟨V0, rfl⟩ : ∃ V, V = wr := ⟨wr, rfl⟩
    clear s1 s2 s3 sb hmk
    by_cases hlt : k0 < n
    · obtain ⟨x0, x1, x2⟩ := iget (row_below hbelW r0 r0.lt) hlt
      have hbi := r0.lt
      have n1 : bi ≠ w.heap.size := by omega
      have n2 : bi ≠ w.heap.size + 1 := by omega
      have n3 : bi ≠ w.heap.size + 2 := by omega
      have R1 := ((nset hr1).setOther (a := ⟨w.heap.size + 1, k0, none⟩) (show w.heap.size ≠ w.heap.size + 1 by omega) (.int .i32 (it k0).2.1)).setOther (a := ⟨w.heap.size + 2, k0, none⟩) (show w.heap.size ≠ w.heap.size + 2 by omega) (.int .i32 (it k0).2.2)
      have R2 := (nset (k := k0) (hr2.setOther (a := ⟨w.heap.size, k0, none⟩) (show w.heap.size + 1 ≠ w.heap.size by omega) (.int .i32 (it k0).1))).setOther (a := ⟨w.heap.size + 2, k0, none⟩) (show w.heap.size + 1 ≠ w.heap.size + 2 by omega) (.int .i32 (it k0).2.2)
      have R3 := nset (k := k0) ((hr3.setOther (a := ⟨w.heap.size, k0, none⟩) (show w.heap.size + 2 ≠ w.heap.size by omega) (.int .i32 (it k0).1)).setOther (a := ⟨w.heap.size + 1, k0, none⟩) (show w.heap.size + 2 ≠ w.heap.size + 1 by omega) (.int .i32 (it k0).2.1))
      have z1 := hr1.cell hlt
      have z2 := hr2.cell hlt
      have z3 := hr3.cell hlt
      have f1 := hr1.frozen k0
      have f2 := hr2.frozen k0
      have f3 := hr3.frozen k0
      unfold ncell at z1 z2 z3
      obtain ⟨y0, hy0⟩ : ∃ q, upto k0 (fun j => (it j).1) 0 k0 = q := ⟨_, rfl⟩
      obtain ⟨y1, hy1⟩ : ∃ q, upto k0 (fun j => (it j).2.1) 0 k0 = q := ⟨_, rfl⟩
      obtain ⟨y2, hy2⟩ : ∃ q, upto k0 (fun j => (it j).2.2) 0 k0 = q := ⟨_, rfl⟩
      rw [hy0] at z1
      rw [hy1] at z2
      rw [hy2] at z3
      obtain ⟨p0, hp0⟩ : ∃ q, (it k0).1 = q := ⟨_, rfl⟩
      obtain ⟨p1, hp1⟩ : ∃ q, (it k0).2.1 = q := ⟨_, rfl⟩
      obtain ⟨p2, hp2⟩ : ∃ q, (it k0).2.2 = q := ⟨_, rfl⟩
      rw [hp0] at x0 R1 R2 R3
      rw [hp1] at x1 R1 R2 R3
      rw [hp2] at x2 R1 R2 R3
      have HR : Hid (_ ∧ _ ∧ _) := And.intro R1 (And.intro R2 R3)
      clear hy0 hy1 hy2 hp0 hp1 hp2 hr1 hr2 hr3 R1 R2 R3
      go_wp2
      go_roundw
      case rel => exact ⟨k0 + 1, by omega, by go_num, HR.out.1, HR.out.2.1, HR.out.2.2, ((hbelW.setCell (p := ⟨w.heap.size, _, none⟩) (Nat.le_refl _) _).setCell (p := ⟨w.heap.size + 1, _, none⟩) (Nat.le_succ _) _).setCell (p := ⟨w.heap.size + 2, _, none⟩) (Nat.le_add_right _ _) _⟩
      case measure => simp [intOf]; omega
    · obtain rfl : k0 = n := by omega
      have hI3 : In3 V0 (some ⟨w.heap.size, 0, none⟩) (some ⟨w.heap.size + 1, 0, none⟩) (some ⟨w.heap.size + 2, 0, none⟩) k0 it := .inr ⟨_, _, _, rfl, rfl, rfl, hr1.congr (fun i hi => by unfold ncell; rw [upto_lt _ _ _ _ hi]), hr2.congr (fun i hi => by unfold ncell; rw [upto_lt _ _ _ _ hi]), hr3.congr (fun i hi => by unfold ncell; rw [upto_lt _ _ _ _ hi])⟩
      clear hr1 hr2 hr3
      obtain ⟨X, hX⟩ : ∃ X, (V0).heap.size = X := ⟨_, rfl⟩
      have hXw : w.heap.size ≤ X := by rw [← hX]; exact hbelW.size
      have l1 : (((V0).alloc (.cells (madeCells #[.slice none 0 0] nl) 35)).alloc (.cells (madeCells #[.slice none 0 0] nl) 35)).rowIs X 35 nl (upto 0 (lv (fun _ => none) ln ln) (.slice none 0 0)) := by
        have := (World.rowIs_made (V0) (.slice none 0 0) nl 35).alloc (.cells (madeCells #[.slice none 0 0] nl) 35)
        rw [hX] at this
        exact this.congr fun i _ => by rw [upto_zero]
      have l2 : (((V0).alloc (.cells (madeCells #[.slice none 0 0] nl) 35)).alloc (.cells (madeCells #[.slice none 0 0] nl) 35)).rowIs (X + 1) 35 nl (upto 0 (lv (fun _ => none) ln ln) (.slice none 0 0)) := by
        have := World.rowIs_made ((V0).alloc (.cells (madeCells #[.slice none 0 0] nl) 35)) (.slice none 0 0) nl 35
        simp only [World.size_alloc] at this
        rw [hX] at this
        exact this.congr fun i _ => by rw [upto_zero]
      have hL0 : L2 (V0) (((V0).alloc (.cells (madeCells #[.slice none 0 0] nl) 35)).alloc (.cells (madeCells #[.slice none 0 0] nl) 35)) X X (X + 1) nl 0 (fun _ => none) (fun _ => none) ln E :=
        ⟨l1, l2, fun j hj => absurd hj (Nat.not_lt_zero _), ((Below.refl _ _).alloc (by omega) _).alloc (by simp; omega) _⟩
      clear l1 l2
      have HB0 : Hid (Below w.heap.size w (V0)) := hbelW
      have HI3 : Hid (In3 (V0) (some ⟨w.heap.size, 0, none⟩) (some ⟨w.heap.size + 1, 0, none⟩) (some ⟨w.heap.size + 2, 0, none⟩) k0 it) := hI3
      have HX : Hid ((V0).heap.size = X) := hX
      clear hI3
      have qW := row_below hbelW q0 q0.lt
      have hblX : bl < X := by have := q0.lt; omega
      have hEW : Hid (∀ a, a < nl → OwnE (V0) 66 lo (A a) (ln a) (ln a) (E a)) := fun a ha => by
        rcases hE a ha with h | ⟨b, h1, h2, h3, h4⟩
        · exact .inl h
        · exact .inr ⟨b, h1, h2, h3, row_below hbelW h4 h4.lt⟩
      clear hbelW
      go_wp2
      go_loopw [21] (fun i wr => ∃ (k : Nat) (A1 A2 : Nat → Option Addr), k ≤ nl ∧ i = .int .i64 k ∧ L2 (V0) wr X X (X + 1) nl k A1 A2 ln E) (fun i _ => nl - (intOf i).toNat)
      case atStart => exact ⟨0, _, _, Nat.zero_le _, rfl, hL0⟩
      case round =>
        obtain ⟨k, A1, A2, hk, rfl, hL⟩ := hrel
        obtain ⟨V, rfl⟩ : ∃ V, V = wr := ⟨wr, rfl⟩
        clear hL0 hmk2
        by_cases hlt : k < nl
        · have c1 : V.cell? ⟨bl, k, none⟩ = some (.slice (A k) (ln k) (ln k)) := (row_below hL.below qW (by omega)).cell hlt
          have hsz : X ≤ V.heap.size := by have := hL.below.size; rw [HX.out] at this; exact this
          have hl := hln k hlt
          have h2 := hEW.out k hlt
          obtain ⟨l, hll⟩ : ∃ l, ln k = l := ⟨_, rfl⟩
          rcases h2 with ⟨e1, e2, _⟩ | ⟨g, e1, _, _, e4⟩
          · rw [e1, e2] at c1
            have HN := hL.nil e2
            clear e1 e2 hL hl hll
            go_wp2
            go_roundw
            case rel => exact ⟨k + 1, _, _, by omega, by go_num, HN⟩
            case measure => simp [intOf]; omega
          · have e4V := row_below hL.below e4 (by have := e4.lt; rw [HX.out] at this; exact this)
            rw [e1, hll] at c1
            rw [hll] at e4V hl
            have HNW : Hid (∀ (wi : World), Below V.heap.size V wi → wi.rowIs V.heap.size 21 l (ncell fun j => (E k j).1) → wi.rowIs (V.heap.size + 1) 21 l (ncell fun j => (E k j).2) → L2 (V0) ((wi.setCell ⟨X, k, none⟩ (.slice (some ⟨V.heap.size, 0, none⟩) l l)).setCell ⟨X + 1, k, none⟩ (.slice (some ⟨V.heap.size + 1, 0, none⟩) l l)) X X (X + 1) nl (k + 1) (upd A1 k (some ⟨V.heap.size, 0, none⟩)) (upd A2 k (some ⟨V.heap.size + 1, 0, none⟩)) ln E) := fun wi hb h1 h2 => by
              have := hL.new (wi := wi) hsz (Nat.le_refl _) (Nat.le_succ _) (by omega) V.heap.size (V.heap.size + 1) hb (by rw [hll]; exact h1) (by rw [hll]; exact h2)
              rw [hll] at this
              exact this
            have HSl : Hid (∀ (wi : World), Below V.heap.size V wi → wi.cell? ⟨X, k, none⟩ = some (.slice none 0 0) ∧ wi.frozen? ⟨X, k, none⟩ = false ∧ wi.cell? ⟨X + 1, k, none⟩ = some (.slice none 0 0) ∧ wi.frozen? ⟨X + 1, k, none⟩ = false) := fun wi hb => hL.slots hlt hb
            have hmk3 := run_make_row' (P := Try.prog) 35 21 (.int .i32 0) 4 Try.underlying35 info21 rfl .i64 .i64 l (by omega) (by omega)
            have t1 : ((V.alloc (.cells (madeCells #[.int .i32 0] l) 21)).alloc (.cells (madeCells #[.int .i32 0] l) 21)).rowIs V.heap.size 21 l (ncell (upto 0 (fun j => (E k j).1) 0)) := ((World.rowIs_made V (.int .i32 0) l 21).alloc _).congr fun i _ => by simp [ncell, upto]
            have t2 : ((V.alloc (.cells (madeCells #[.int .i32 0] l) 21)).alloc (.cells (madeCells #[.int .i32 0] l) 21)).rowIs (V.heap.size + 1) 21 l (ncell (upto 0 (fun j => (E k j).2) 0)) := by
              have := World.rowIs_made (V.alloc (.cells (madeCells #[.int .i32 0] l) 21)) (.int .i32 0) l 21
              simp only [World.size_alloc] at this
              exact this.congr fun i _ => by simp [ncell, upto]
            have hbv : Below V.heap.size V ((V.alloc (.cells (madeCells #[.int .i32 0] l) 21)).alloc (.cells (madeCells #[.int .i32 0] l) 21)) := ((Below.refl _ _).alloc (Nat.le_refl _) _).alloc (by simp) _
            have hblV : bl < V.heap.size := by omega
            have hgV := e4V.lt
            have cA : ∀ o, (V.alloc o).cell? ⟨bl, k, none⟩ = some (.slice (some ⟨g, 0, none⟩) l l) := fun o => (Below.cell (B := V.heap.size) ((Below.refl _ _).alloc (Nat.le_refl _) o) hblV).trans c1
            clear e1 e4 hll hL
            go_wp2
            go_loopw [24] (fun j wi => ∃ m : Nat, m ≤ l ∧ j = .int .i64 m ∧ wi.rowIs V.heap.size 21 l (ncell (upto m (fun j => (E k j).1) 0)) ∧ wi.rowIs (V.heap.size + 1) 21 l (ncell (upto m (fun j => (E k j).2) 0)) ∧ Below V.heap.size V wi) (fun j _ => l - (intOf j).toNat)
            case atStart => exact ⟨0, Nat.zero_le _, rfl, t1, t2, hbv⟩
            case round =>
              obtain ⟨wi, rfl⟩ : ∃ V, V = wr := ⟨wr, rfl⟩
              obtain ⟨m, hm, rfl, hr1, hr2, hbel⟩ := hrel
              clear hmk3 t1 t2 hbv cA hq2
              have d1 : wi.cell? ⟨bl, k, none⟩ = some (.slice (some ⟨g, 0, none⟩) l l) := (hbel.cell (p := ⟨bl, k, none⟩) hblV).trans c1
              clear c1
              by_cases hml : m < l
              · obtain ⟨x0, x1⟩ := eget (row_all hbel e4V) hml
                have R1 := (nset hr1).setOther (a := ⟨V.heap.size + 1, m, none⟩) (show V.heap.size ≠ V.heap.size + 1 by omega) (.int .i32 (E k m).2)
                have R2 := nset (k := m) (hr2.setOther (a := ⟨V.heap.size, m, none⟩) (show V.heap.size + 1 ≠ V.heap.size by omega) (.int .i32 (E k m).1))
                have z1 := hr1.cell hml
                have z2 := hr2.cell hml
                have f1 := hr1.frozen m
                have f2 := hr2.frozen m
                unfold ncell at z1 z2
                obtain ⟨y0, hy0⟩ : ∃ q, upto m (fun j => (E k j).1) 0 m = q := ⟨_, rfl⟩
                obtain ⟨y1, hy1⟩ : ∃ q, upto m (fun j => (E k j).2) 0 m = q := ⟨_, rfl⟩
                rw [hy0] at z1
                rw [hy1] at z2
                obtain ⟨p0, hp0⟩ : ∃ q, (E k m).1 = q := ⟨_, rfl⟩
                obtain ⟨p1, hp1⟩ : ∃ q, (E k m).2 = q := ⟨_, rfl⟩
                rw [hp0] at x0 R1 R2
                rw [hp1] at x1 R1 R2
                have n1 : bl ≠ V.heap.size := by omega
                have n2 : bl ≠ V.heap.size + 1 := by omega
                have n3 : g ≠ V.heap.size := by omega
                have n4 : g ≠ V.heap.size + 1 := by omega
                have HR : Hid (_ ∧ _) := And.intro R1 R2
                clear hy0 hy1 hp0 hp1 hr1 hr2 HNW HSl R1 R2 e4V
                go_wp2
                go_roundw
                case rel => exact ⟨m + 1, by omega, by go_num, HR.out.1, HR.out.2, (hbel.setCell (p := ⟨V.heap.size, _, none⟩) (Nat.le_refl _) _).setCell (p := ⟨V.heap.size + 1, _, none⟩) (Nat.le_succ _) _⟩
                case measure => simp [intOf]; omega
              · obtain ⟨s1, s2, s3, s4⟩ := HSl.out _ hbel
                have HQ : Hid (L2 (V0) ((wi.setCell ⟨X, k, none⟩ (.slice (some ⟨V.heap.size, 0, none⟩) l l)).setCell ⟨X + 1, k, none⟩ (.slice (some ⟨V.heap.size + 1, 0, none⟩) l l)) X X (X + 1) nl (k + 1) (upd A1 k (some ⟨V.heap.size, 0, none⟩)) (upd A2 k (some ⟨V.heap.size + 1, 0, none⟩)) ln E) :=
                  HNW.out _ hbel (hr1.congr fun i hi => by unfold ncell; rw [upto_lt _ _ _ _ (by omega)]) (hr2.congr fun i hi => by unfold ncell; rw [upto_lt _ _ _ _ (by omega)])
                clear HNW HSl hr1 hr2 e4V
                go_wp2
                go_roundw
                case rel => exact ⟨k + 1, _, _, by omega, by go_num, HQ.out⟩
                case measure => simp [intOf]; omega
        · obtain rfl : k = nl := by omega
          have hI2 : In2 V (some ⟨X, 0, none⟩) (some ⟨X + 1, 0, none⟩) k ln E := .inr ⟨X, X + 1, A1, A2, rfl, rfl, hL.row1.congr (fun j hj => upto_lt _ _ _ _ hj), hL.row2.congr (fun j hj => upto_lt _ _ _ _ hj), hL.each⟩
          have hbX := hL.below
          rw [← HX.out] at hbX
          have hI3 : In3 V (some ⟨w.heap.size, 0, none⟩) (some ⟨w.heap.size + 1, 0, none⟩) (some ⟨w.heap.size + 2, 0, none⟩) k0 it := HI3.out.mono hbX
          have hbelW : Below w.heap.size w V := HB0.out.trans (hbX.mono HB0.out.size)
          clear hL hbX hq2
          have roW := row_below hbelW ro ro.lt
          have ck : ∀ j, j < nn → (V).cell? ⟨bo, 0 + j, none⟩ = some (.int .i32 (LO j)) := fun j hj => by rw [Nat.zero_add]; exact roW.cell hj
          have HB : Hid (Below w.heap.size w (V)) := hbelW
          have H3 : Hid (In3 (V) (some ⟨w.heap.size, 0, none⟩) (some ⟨w.heap.size + 1, 0, none⟩) (some ⟨w.heap.size + 2, 0, none⟩) k0 it) := hI3
          have H2 : Hid (In2 (V) (some ⟨X, 0, none⟩) (some ⟨X + 1, 0, none⟩) k ln E) := hI2
          have hcl := cloneN_some bo 0 nn nn LO (V) hnn roW.lt ck
          clear roW ck hI3 hI2
          have HB' : Hid (Below w.heap.size w (V)) := hbelW
          clear hbelW HB'
          go_wp2_with fail
          refine hcl.mono ?_
          rintro e W1 ⟨rfl, hrow, hb1⟩
          clear hcl
          have HR : Hid (W1.rowIs (V).heap.size 21 nn (ncell LO)) := hrow
          have HB1 : Hid (Below (V).heap.size (V) W1) := hb1
          clear hrow hb1
          go_wp2_with fail
          refine (cloneN_nil W1).mono ?_
          rintro e w' ⟨rfl, hw⟩
          obtain rfl := hw.symm
          go_wp2_with fail
          have hmake := make_any (some ⟨w.heap.size, 0, none⟩) (some ⟨w.heap.size + 1, 0, none⟩) (some ⟨w.heap.size + 2, 0, none⟩) (some ⟨X, 0, none⟩) (some ⟨X + 1, 0, none⟩) k0 k (V).heap.size nn it ln E LO W1 hn hnl hln (H3.out.mono HB1.out) (H2.out.mono HB1.out) w.heap.size (by have h1 := HB.out.size; have h2 := HB1.out.size; omega) HB.out.size HR.out
          refine hmake.mono ?_
          rintro e W2 ⟨hb, rfl, hH, hb2⟩
          have HF : Hid (Holder W2 w.heap.size hb k0 it k (mkL ln E) nn LO ∧ Below w.heap.size w W2) := ⟨hH, (HB.out.trans (HB1.out.mono HB.out.size)).trans (hb2.mono (by have h1 := HB.out.size; have h2 := HB1.out.size; omega))⟩
          clear hmake hH hb2
          go_wp2
          go_ret
          exact ⟨hb, rfl, HF.out.1, HF.out.2⟩

/-- stepMake, whatever is nil. -/
theorem sm_any (ai al : Option Addr) (n nl bo nn lo : Nat) (it : Nat → I3) (A : Nat → Option Addr) (ln : Nat → Nat) (E : Nat → Nat → E2) (LO : Nat → Int) (w : World) (hn : n ≤ 65536) (hnl : nl ≤ 65536) (hln : ∀ j, j < nl → ln j ≤ 131072)
    (hi : OwnI w 62 lo ai n it) (hl : OwnL w 64 66 lo al nl A ln ln E) (hnn : nn ≤ 65536) (ro : w.rowIs bo 21 nn (ncell LO)) :
    Calls Try.prog 26 #[.int .i32 0, .int .i32 0, .slice ai n n, .slice al nl nl, .slice (some ⟨bo, 0, none⟩) nn nn, .slice none 0 0, .int .i32 0] w fun e w' =>
      ∃ hb, e = .returned (.pointer (some ⟨hb, 0, none⟩)) ∧ Holder w' w.heap.size hb n it nl (mkL ln E) nn LO ∧ Below w.heap.size w w' := by
  rcases hi with ⟨rfl, rfl⟩ | ⟨bi, rfl, _, r0⟩
  · rcases hl with ⟨rfl, rfl⟩ | ⟨bl, rfl, _, q0, hE⟩
    · exact sm_nn it ln E bo nn LO w hnn ro
    · exact sm_ns it bl nl A ln E bo nn LO w hnl hln q0 lo hE hnn ro
  · rcases hl with ⟨rfl, rfl⟩ | ⟨bl, rfl, _, q0, hE⟩
    · exact sm_sn bi n it ln E bo nn LO w hn r0 hnn ro
    · exact sm_ss bi n it bl nl A ln E bo nn LO w hn r0 hnl hln q0 lo hE hnn ro

end Go.Proofs.Qxb6605516a
