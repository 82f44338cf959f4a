import Derived.Test.Qxb6605516aMake
import Derived.Test.Qxb6605516aDomain
import Derived.Deep.QuietTactic
import Derived.BigQuiet
namespace Go.Proofs.Qxb6605516a
open Go.RowKit Go.Deep
open Pl (I3 E2 Ls upd upd_same upd_other cnt ind)

theorem reset_any (s : Int) (w : World) (h1 : -2147483648 ≤ s) (h2 : s ≤ 2147483647) :
    Calls Try.prog 31 #[.int .i32 s] w fun e w' => e = .returned (.int .i64 (Pl.resetAt s)) ∧ w' = w := by
  by_cases h : 0 ≤ s
  · have e : Pl.resetAt s = s + 1 := by unfold Pl.resetAt; rw [if_pos h]
    rw [e]
    go_enter Try.func31, Try.ntmps31
    go_wp2
    go_ret
    exact ⟨rfl, rfl⟩
  · by_cases hm : s = -2147483648
    · subst hm
      have e : Pl.resetAt (-2147483648) = 1099511627776 := by decide
      rw [e]
      go_enter Try.func31, Try.ntmps31
      go_wp2
      go_ret
      exact ⟨rfl, rfl⟩
    · have e : Pl.resetAt s = 1 := by unfold Pl.resetAt; rw [if_neg h, if_neg hm]
      rw [e]
      have hb : (s == -2147483648) = false := by simpa using hm
      go_enter Try.func31, Try.ntmps31
      go_wp2
      go_ret
      exact ⟨rfl, rfl⟩

/-- The counts, cell by cell. -/
def ccell (it : Nat → I3) (E : Nat → E2) (k : Nat) (x : Nat) : Value := .int .i64 ((cnt it E x k : Nat) : Int)

theorem ccell_hit {w : World} {B n k x : Nat} {it : Nat → I3} {E : Nat → E2} (h : w.rowIs B 2 n (ccell it E k)) (hx : (E k).1 = (x : Int)) (he : (it x).1 = (E k).2) :
    (w.setCell ⟨B, x, none⟩ (.int .i64 (((cnt it E x k : Nat) : Int) + 1))).rowIs B 2 n (ccell it E (k + 1)) := by
  refine (h.set x _).congr fun y _ => ?_
  unfold ccell
  by_cases e : y = x
  · subst e
    rw [if_pos rfl]
    have : cnt it E y (k + 1) = cnt it E y k + 1 := by
      show cnt it E y k + ind it y (E k) = _
      rw [Pl.ind_pos _ _ _ (by rw [hx]; rfl) he]
    rw [this]
    rfl
  · rw [if_neg e]
    have : cnt it E y (k + 1) = cnt it E y k := by
      show cnt it E y k + ind it y (E k) = _
      rw [Pl.ind_neg _ _ _ (fun h => e (by have := h.1; rw [hx] at this; exact this.symm))]; rfl
    rw [this]

theorem ccell_miss {w : World} {B n k x : Nat} {it : Nat → I3} {E : Nat → E2} (h : w.rowIs B 2 n (ccell it E k)) (hx : (E k).1 = (x : Int)) (he : (it x).1 ≠ (E k).2) : w.rowIs B 2 n (ccell it E (k + 1)) := by
  refine h.congr fun y _ => ?_
  unfold ccell
  have : cnt it E y (k + 1) = cnt it E y k := by
    show cnt it E y k + ind it y (E k) = _
    rw [Pl.ind_neg]
    · rfl
    · rintro ⟨h1, h2⟩
      rw [hx] at h1
      have : x = y := h1
      subst this
      exact he h2
  rw [this]

set_option maxHeartbeats 400000 in
set_option maxRecDepth 100000 in
theorem counts_neg (ai al : Option Addr) (n ci nl cl : Nat) (v : Int) (w : World) (hn : n ≤ 65536) (hv : v < 0) :
    Calls Try.prog 30 #[.slice ai n ci, .slice al nl cl, .int .i32 v] w fun e w' => e = .returned (.slice (some ⟨w.heap.size, 0, none⟩) n n) ∧ w'.rowIs w.heap.size 2 n (fun _ => .int .i64 0) ∧ Below w.heap.size w w' := by
  have hmk := run_make_row' (P := Try.prog) 59 2 (.int .i64 0) 8 Try.underlying59 info2 rfl .i64 .i64 n (by omega) (by omega)
  go_enter Try.func30, Try.ntmps30
  go_wp2
  go_ret
  exact ⟨rfl, World.rowIs_made _ _ _ _, (Below.refl _ _).alloc (Nat.le_refl _) _⟩

set_option maxHeartbeats 400000 in
set_option maxRecDepth 100000 in
theorem counts_empty (ai ad : Option Addr) (n ci bl nl cl a c : Nat) (w : World) (hn : n ≤ 65536) (ha : a < nl) (hbl : bl < w.heap.size) (c1 : w.cell? ⟨bl, a, none⟩ = some (.slice ad 0 c)) :
    Calls Try.prog 30 #[.slice ai n ci, .slice (some ⟨bl, 0, none⟩) nl cl, .int .i32 (a : Int)] w fun e w' => e = .returned (.slice (some ⟨w.heap.size, 0, none⟩) n n) ∧ w'.rowIs w.heap.size 2 n (fun _ => .int .i64 0) ∧ Below w.heap.size w w' := by
  have hmk := run_make_row' (P := Try.prog) 59 2 (.int .i64 0) 8 Try.underlying59 info2 rfl .i64 .i64 n (by omega) (by omega)
  have cA : ∀ o, (w.alloc o).cell? ⟨bl, a, none⟩ = some (.slice ad 0 c) := fun o => (Below.cell (B := w.heap.size) ((Below.refl _ _).alloc (Nat.le_refl _) o) hbl).trans c1
  go_enter Try.func30, Try.ntmps30
  go_wp2
  go_loop [9] (fun i => i = .int .i64 0) (fun _ => 0)
  case atStart => rfl
  case round =>
    obtain rfl := hrel
    clear hmk cA
    go_wp2
    go_ret
    exact ⟨rfl, World.rowIs_made _ _ _ _, (Below.refl _ _).alloc (Nat.le_refl _) _⟩

set_option maxHeartbeats 1000000 in
set_option maxRecDepth 100000 in
theorem counts_main (bi g n ci bl nl cl a l c : Nat) (it : Nat → I3) (E : Nat → E2) (w : World) (hn : n ≤ 65536) (ha : a < nl) (hbl : bl < w.heap.size) (c1 : w.cell? ⟨bl, a, none⟩ = some (.slice (some ⟨g, 0, none⟩) l c))
    (hl : l ≤ 131072) (ri : w.rowIs bi 62 (n * 3) (icell it)) (rg : w.rowIs g 66 (l * 2) (ecell E)) (hgood : GoodL n l E) :
    Calls Try.prog 30 #[.slice (some ⟨bi, 0, none⟩) n ci, .slice (some ⟨bl, 0, none⟩) nl cl, .int .i32 (a : Int)] w fun e w' => e = .returned (.slice (some ⟨w.heap.size, 0, none⟩) n n) ∧ w'.rowIs w.heap.size 2 n (ccell it E l) ∧ Below w.heap.size w w' := by
  have hmk := run_make_row' (P := Try.prog) 59 2 (.int .i64 0) 8 Try.underlying59 info2 rfl .i64 .i64 n (by omega) (by omega)
  have cA : ∀ o, (w.alloc o).cell? ⟨bl, a, none⟩ = some (.slice (some ⟨g, 0, none⟩) l c) := fun o => (Below.cell (B := w.heap.size) ((Below.refl _ _).alloc (Nat.le_refl _) o) hbl).trans c1
  have hr0 : (w.alloc (.cells (madeCells #[.int .i64 0] n) 2)).rowIs w.heap.size 2 n (ccell it E 0) := (World.rowIs_made _ _ _ _).congr fun _ _ => rfl
  have HG : Hid (GoodL n l E) := hgood
  have HI : Hid (w.rowIs bi 62 (n * 3) (icell it)) := ri
  have HE : Hid (w.rowIs g 66 (l * 2) (ecell E)) := rg
  have hbi := ri.lt
  have hgl := rg.lt
  clear hgood ri rg c1
  go_enter Try.func30, Try.ntmps30
  go_wp2
  go_loopw [9] (fun i wr => ∃ k : Nat, k ≤ l ∧ i = .int .i64 k ∧ wr.rowIs w.heap.size 2 n (ccell it E k) ∧ Below w.heap.size w wr) (fun i _ => l - (intOf i).toNat)
  case atStart => exact ⟨0, Nat.zero_le _, rfl, hr0, (Below.refl _ _).alloc (Nat.le_refl _) _⟩
  case round =>
    obtain ⟨k, hk, rfl, hrow, hbel⟩ := hrel
    clear hr0 hmk cA
    by_cases hlt : k < l
    · obtain ⟨g1, g2, g3⟩ := HG.out k hlt
      obtain ⟨x, hxx⟩ := Int.eq_ofNat_of_zero_le g1
      have hxn : x < n := by omega
      obtain ⟨x0, x1⟩ := eget (row_below hbel HE.out hgl) hlt
      obtain ⟨i0, _, _⟩ := iget (row_below hbel HI.out hbi) hxn
      have cx := hrow.cell hxn
      have fx := hrow.frozen x
      have hcl := Pl.cnt_le it E x k
      have HX : Hid ((E k).1 = (x : Int)) := hxx
      rw [hxx] at x0
      unfold ccell at cx
      obtain ⟨cc, hcc⟩ : ∃ q, cnt it E x k = q := ⟨_, rfl⟩
      have RH := fun (he : (it x).1 = (E k).2) => ccell_hit hrow hxx he
      have RM := fun (he : (it x).1 ≠ (E k).2) => ccell_miss hrow hxx he
      rw [hcc] at cx hcl RH
      obtain ⟨ep, hep⟩ : ∃ q, (E k).2 = q := ⟨_, rfl⟩
      obtain ⟨p0, hp0⟩ : ∃ q, (it x).1 = q := ⟨_, rfl⟩
      rw [hep, hp0] at RH RM
      rw [hep] at x1
      rw [hp0] at i0
      have n1 : g ≠ w.heap.size := by omega
      have n2 : bi ≠ w.heap.size := by omega
      clear hcc hep hp0 hxx hrow g1 g2 g3
      by_cases hm : p0 = ep
      · have hmb : (p0 == ep) = true := by simp [hm]
        have HR : Hid (_) := RH hm
        clear RH RM hm
        go_wp2
        go_quiet (fail)
        go_wp2
        go_roundw
        case rel => exact ⟨k + 1, by omega, by go_num, HR.out, (below_drewN hbel _).setCell (p := ⟨w.heap.size, x, none⟩) (Nat.le_refl _) _⟩
        case measure => simp [intOf]; omega
      · have hmb : (p0 == ep) = false := by simp [hm]
        have HR : Hid (_) := RM hm
        clear RH RM hm
        go_wp2
        go_quiet (fail)
        go_wp2
        go_roundw
        case rel => exact ⟨k + 1, by omega, by go_num, HR.out, below_drewN hbel _⟩
        case measure => simp [intOf]; omega
    · obtain rfl : k = l := by omega
      go_wp2
      go_ret
      exact ⟨rfl, hrow, hbel⟩

/-- stepCounts, whatever is nil. -/
theorem counts_any (ai al : Option Addr) (n nl lo : Nat) (v : Int) (it : Nat → I3) (A : Nat → Option Addr) (ln : Nat → Nat) (E : Nat → Nat → E2) (w : World) (hn : n ≤ 65536) (hln : ∀ j, j < nl → ln j ≤ 131072)
    (hi : OwnI w 62 lo ai n it) (hl : OwnL w 64 66 lo al nl A ln ln E) (hdom : 0 ≤ v → v < (nl : Int) ∧ GoodL n (ln v.toNat) (E v.toNat)) :
    Calls Try.prog 30 #[.slice ai n n, .slice al nl nl, .int .i32 v] w fun e w' => e = .returned (.slice (some ⟨w.heap.size, 0, none⟩) n n) ∧
      w'.rowIs w.heap.size 2 n (fun x => .int .i64 ((Pl.cntAt it (mkL ln E) v x : Nat) : Int)) ∧ Below w.heap.size w w' := by
  by_cases hv : v < 0
  · refine (counts_neg ai al n n nl nl v w hn hv).mono ?_
    rintro e w' ⟨rfl, h1, h2⟩
    exact ⟨rfl, h1.congr (fun x _ => by unfold Pl.cntAt; rw [if_pos hv]; rfl), h2⟩
  · obtain ⟨a, rfl⟩ := Int.eq_ofNat_of_zero_le (show 0 ≤ v by omega)
    obtain ⟨d1, d2⟩ := hdom (by omega)
    simp only [Int.toNat_natCast] at d2
    have ha : a < nl := by omega
    have key : ∀ x, Pl.cntAt it (mkL ln E) (a : Int) x = cnt it (E a) x (ln a) := fun x => by unfold Pl.cntAt; rw [if_neg hv]; rfl
    simp only [key]
    rcases hl with ⟨_, h0⟩ | ⟨bl, rfl, _, rl, each⟩
    · omega
    have c1 : w.cell? ⟨bl, a, none⟩ = some (.slice (A a) (ln a) (ln a)) := rl.cell ha
    by_cases hz : ln a = 0
    · rw [hz] at c1
      refine (counts_empty ai (A a) n n bl nl nl a 0 w hn ha rl.lt c1).mono ?_
      rintro e w' ⟨rfl, h1, h2⟩
      exact ⟨rfl, h1.congr (fun x _ => by rw [hz]; rfl), h2⟩
    · rcases each a ha with ⟨_, h, _⟩ | ⟨g, h1, _, _, h4⟩
      · exact absurd h hz
      rcases hi with ⟨_, h0⟩ | ⟨bi, rfl, _, ri⟩
      · have := d2 0 (by omega)
        omega
      rw [h1] at c1
      refine (counts_main bi g n n bl nl nl a (ln a) (ln a) it (E a) w hn ha rl.lt c1 (hln a ha) ri h4 d2).mono ?_
      rintro e w' ⟨rfl, h5, h6⟩
      exact ⟨rfl, h5, h6⟩

end Go.Proofs.Qxb6605516a
