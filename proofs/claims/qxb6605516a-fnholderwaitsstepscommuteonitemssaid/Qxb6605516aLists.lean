import Derived.Test.Qxb6605516aClones
namespace Go.Proofs.Qxb6605516a
open Go.RowKit Go.Deep
open Pl (I3 E2 upd upd_same upd_other)

/-- A slice of the call's own: nil, or a row from block 'lo' on, told cell by cell. -/
def OwnR (w : World) (te : TypeId) (sz lo : Nat) (a : Option Addr) (n c : Nat) (f : Nat → Value) : Prop :=
  (a = none ∧ n = 0 ∧ c = 0) ∨ ∃ b, a = some ⟨b, 0, none⟩ ∧ lo ≤ b ∧ n ≤ c ∧ w.rowIs b te (c * sz) f

theorem OwnR.mono {w w' : World} {te : TypeId} {sz lo n c : Nat} {a : Option Addr} {f : Nat → Value} (h : OwnR w te sz lo a n c f) (hb : Below w.heap.size w w') : OwnR w' te sz lo a n c f := by
  rcases h with h | ⟨b, h1, h2, h3, h4⟩
  · exact .inl h
  · exact .inr ⟨b, h1, h2, h3, row_all hb h4⟩

/-- A slot of a slice of slices. -/
def lv (A : Nat → Option Addr) (ln cp : Nat → Nat) (j : Nat) : Value := .slice (A j) (ln j) (cp j)

/-- A slice of slices that is being filled: its first k are there, told by their cells; no two share a row; nothing old has turned. -/
structure LRel (w wr : World) (t te : TypeId) (sz lo B n k : Nat) (A : Nat → Option Addr) (ln : Nat → Nat) (F : Nat → Nat → Value) : Prop where
  row : wr.rowIs B t n (upto k (lv A ln ln) (.slice none 0 0))
  each : ∀ j, j < k → OwnR wr te sz lo (A j) (ln j) (ln j) (F j)
  inj : ∀ i j, i < k → j < k → A i = A j → A i ≠ none → i = j
  below : Below lo w wr

theorem lv_upd (A : Nat → Option Addr) (ln : Nat → Nat) (k : Nat) (v : Option Addr) (j : Nat) (h : j < k) : lv (upd A k v) ln ln j = lv A ln ln j := by
  unfold lv; rw [upd_other _ _ _ _ (by omega)]

theorem upto_lv (A : Nat → Option Addr) (ln : Nat → Nat) (k : Nat) (v : Option Addr) (j : Nat) : upto (k + 1) (lv (upd A k v) ln ln) (.slice none 0 0) j = if j = k then .slice v (ln k) (ln k) else upto k (lv A ln ln) (.slice none 0 0) j := by
  unfold upto
  by_cases e : j = k
  · subst e; rw [if_pos rfl, if_pos (by omega)]; unfold lv; rw [upd_same]
  · rw [if_neg e]
    by_cases l : j < k
    · rw [if_pos l, if_pos (by omega), lv_upd _ _ _ _ _ l]
    · rw [if_neg l, if_neg (by omega)]

section
variable {w wr wi : World} {t te : TypeId} {sz lo B n k : Nat} {A : Nat → Option Addr} {ln : Nat → Nat} {F : Nat → Nat → Value}

/-- A nil slice is left nil. -/
theorem LRel.nil (h : LRel w wr t te sz lo B n k A ln F) (h0 : ln k = 0) : LRel w wr t te sz lo B n (k + 1) (upd A k none) ln F := by
  refine ⟨h.row.congr fun j _ => ?_, fun j hj => ?_, fun i j hi hj he hne => ?_, h.below⟩
  · rw [upto_lv]
    by_cases e : j = k
    · subst e; rw [if_pos rfl, h0]; unfold upto; rw [if_neg (by omega)]
    · rw [if_neg e]
  · by_cases e : j = k
    · subst e; rw [upd_same]; exact .inl ⟨rfl, h0, h0⟩
    · rw [upd_other _ _ _ _ e]; exact h.each j (by omega)
  · by_cases ei : i = k
    · subst ei; rw [upd_same] at hne; exact absurd rfl hne
    · by_cases ej : j = k
      · subst ej; rw [upd_same] at he; exact absurd he hne
      · rw [upd_other _ _ _ _ ei] at he hne
        rw [upd_other _ _ _ _ ej] at he
        exact h.inj i j (by omega) (by omega) he hne

/-- A new row is laid and its slice stored. -/
theorem LRel.new (h : LRel w wr t te sz lo B n k A ln F) (htt : te ≠ t) (hlo : lo ≤ wr.heap.size) (hBlo : lo ≤ B) (hb : Below wr.heap.size wr wi) (hr : wi.rowIs wr.heap.size te (ln k * sz) (F k)) :
    LRel w (wi.setCell ⟨B, k, none⟩ (.slice (some ⟨wr.heap.size, 0, none⟩) (ln k) (ln k))) t te sz lo B n (k + 1) (upd A k (some ⟨wr.heap.size, 0, none⟩)) ln F := by
  have hBrow := row_all hb h.row
  have hBlt := h.row.lt
  refine ⟨(hBrow.set k _).congr fun j _ => ?_, fun j hj => ?_, fun i j hi hj he hne => ?_, ?_⟩
  · rw [upto_lv]
  · by_cases e : j = k
    · subst e
      rw [upd_same]
      exact .inr ⟨_, rfl, hlo, Nat.le_refl _, hr.setOther (row_ne hr hBrow htt) _⟩
    · rw [upd_other _ _ _ _ e]
      rcases (h.each j (by omega)).mono hb with hh | ⟨b, h1, h2, h3, h4⟩
      · exact .inl hh
      · exact .inr ⟨b, h1, h2, h3, h4.setOther (row_ne h4 hBrow htt) _⟩
  · have old : ∀ j, j < k → A j ≠ some ⟨wr.heap.size, 0, none⟩ := fun j hj hh => by
      rcases h.each j hj with ⟨h1, _⟩ | ⟨b, h1, _, _, h4⟩
      · rw [h1] at hh; exact absurd hh (by simp)
      · rw [h1] at hh
        simp only [Option.some.injEq, Addr.mk.injEq, and_true] at hh
        have := h4.lt
        omega
    by_cases ei : i = k
    · subst ei
      by_cases ej : j = i
      · exact ej.symm
      · rw [upd_same, upd_other _ _ _ _ ej] at he
        exact absurd he.symm (old j (by omega))
    · by_cases ej : j = k
      · subst ej
        rw [upd_same, upd_other _ _ _ _ ei] at he
        exact absurd he (old i (by omega))
      · rw [upd_other _ _ _ _ ei] at he hne
        rw [upd_other _ _ _ _ ej] at he
        exact h.inj i j (by omega) (by omega) he hne
  · exact (h.below.trans (hb.mono hlo)).setCell (p := ⟨B, k, none⟩) hBlo _

/-- The same slot cell, for the walk: what lies there, and that it may be written. -/
theorem LRel.slot (h : LRel w wr t te sz lo B n k A ln F) (hk : k < n) (hb : Below wr.heap.size wr wi) : wi.cell? ⟨B, k, none⟩ = some (.slice none 0 0) ∧ wi.frozen? ⟨B, k, none⟩ = false := by
  have := row_all hb h.row
  refine ⟨?_, this.frozen k⟩
  rw [this.cell hk]
  unfold upto
  rw [if_neg (Nat.lt_irrefl _)]
end

/-! ### cloneLists -/
theorem cloneL_nil (w : World) : Calls Try.prog 24 #[.slice none 0 0] w fun e w' => e = .returned (.slice none 0 0) ∧ w' = w := by
  have hq := fun (w : World) (a : Option Addr) (n c : Nat) => Lib.run_eql_slice_nil (P := Try.prog) w 45 64 a n c 0 0 Try.underlying45
  go_enter Try.func24, Try.ntmps24
  go_wp2
  go_ret
  exact ⟨rfl, rfl⟩

theorem cloneL_empty (a : Addr) (c : Nat) (w : World) :
    Calls Try.prog 24 #[.slice (some a) 0 c] w fun e w' => e = .returned (.slice (some ⟨w.heap.size, 0, none⟩) 0 0) ∧ w'.rowIs w.heap.size 64 0 (fun _ => .slice none 0 0) ∧ Below w.heap.size w w' := by
  have hmk := run_make_row' (P := Try.prog) 45 64 (.slice none 0 0) 24 Try.underlying45 info64 rfl .i64 .i64 0 (by omega) (by omega)
  have hq := fun (w : World) (a : Option Addr) (n c : Nat) => Lib.run_eql_slice_nil (P := Try.prog) w 45 64 a n c 0 0 Try.underlying45
  have HR : Hid ((w.alloc (.cells (madeCells #[.slice none 0 0] 0) 64)).rowIs w.heap.size 64 0 (fun _ => .slice none 0 0)) := World.rowIs_made _ _ _ _
  simp only [Int.natCast_zero] at hmk
  go_enter Try.func24, Try.ntmps24
  go_wp2
  go_loop [4] (fun i => i = .int .i64 0) (fun _ => 0)
  case atStart => rfl
  case round =>
    obtain rfl := hrel
    clear hmk hq
    go_wp2
    go_ret
    exact ⟨rfl, HR.out, (Below.refl _ _).alloc (Nat.le_refl _) _⟩

set_option maxHeartbeats 1000000 in
set_option maxRecDepth 100000 in
theorem cloneL_some (b off n c : Nat) (A : Nat → Option Addr) (ln cp : Nat → Nat) (E : Nat → Nat → E2) (w : World) (hn : n ≤ 65536) (hln : ∀ j, j < n → ln j ≤ 131072) (hbw : b < w.heap.size)
    (hc : ∀ j, j < n → w.cell? ⟨b, off + j, none⟩ = some (.slice (A j) (ln j) (cp j)) ∧ ViewE w (A j) (ln j) (E j)) :
    Calls Try.prog 24 #[.slice (some ⟨b, off, none⟩) n c] w fun e w' => e = .returned (.slice (some ⟨w.heap.size, 0, none⟩) n n) ∧ ∃ A', LRel w w' 64 66 2 w.heap.size w.heap.size n n A' ln (fun j => ecell (E j)) := by
  have hmk := run_make_row' (P := Try.prog) 45 64 (.slice none 0 0) 24 Try.underlying45 info64 rfl .i64 .i64 n (by omega) (by omega)
  have hq := fun (w : World) (a : Option Addr) (n c : Nat) => Lib.run_eql_slice_nil (P := Try.prog) w 45 64 a n c 0 0 Try.underlying45
  have hq2 := fun (w : World) (a : Option Addr) (n c : Nat) => Lib.run_eql_slice_nil (P := Try.prog) w 64 66 a n c 0 0 Try.underlying64
  have hr0 : LRel w (w.alloc (.cells (madeCells #[.slice none 0 0] n) 64)) 64 66 2 w.heap.size w.heap.size n 0 (fun _ => none) ln (fun j => ecell (E j)) :=
    ⟨(World.rowIs_made _ _ _ _).congr fun i _ => by rw [upto_zero], fun j hj => absurd hj (Nat.not_lt_zero _), fun i j hi => absurd hi (Nat.not_lt_zero _), (Below.refl _ _).alloc (Nat.le_refl _) _⟩
  go_enter Try.func24, Try.ntmps24
  go_wp2
  go_loopw [4] (fun i wr => ∃ (k : Nat) (A' : Nat → Option Addr), k ≤ n ∧ i = .int .i64 k ∧ LRel w wr 64 66 2 w.heap.size w.heap.size n k A' ln (fun j => ecell (E j))) (fun i _ => n - (intOf i).toNat)
  case atStart => exact ⟨0, _, Nat.zero_le _, rfl, hr0⟩
  case round =>
    obtain ⟨k, A', hk, rfl, hL⟩ := hrel
    obtain ⟨V, rfl⟩ : ∃ V, V = wr := ⟨wr, rfl⟩
    clear hr0 hmk hq
    by_cases hlt : k < n
    · obtain ⟨ck0, hve⟩ := hc k hlt
      have ck : V.cell? ⟨b, off + k, none⟩ = some (.slice (A k) (ln k) (cp k)) := (hL.below.cell (p := ⟨b, off + k, none⟩) hbw).trans ck0
      have hl := hln k hlt
      have hsz : w.heap.size ≤ V.heap.size := hL.below.size
      clear ck0 hc hln
      cases hA : A k with
      | none =>
        have h0 : ln k = 0 := by
          rcases hve with h | ⟨_, _, h, _⟩
          · exact h
          · rw [hA] at h; exact absurd h (by simp)
        have HN := hL.nil h0
        rw [hA] at ck
        clear hA hve h0 hL hl
        go_wp2
        go_roundw
        case rel => exact ⟨k + 1, _, by omega, by go_num, HN⟩
        case measure => simp [intOf]; omega
      | some ad =>
        rw [hA] at ck hve
        clear hA
        obtain ⟨l, hll⟩ : ∃ l, ln k = l := ⟨_, rfl⟩
        have HN := fun (wi : World) => hL.new (wi := wi) (by decide) hsz (Nat.le_refl _)
        have HSl := fun (wi : World) => hL.slot (wi := wi) hlt
        rw [hll] at ck hve hl HN
        have HLL : Hid (ln k = l) := hll
        clear hll
        obtain ⟨C, hmk2, hC1, hC2⟩ := run_make_ints (P := Try.prog) 64 66 2 8 _ Try.underlying64 info66 rfl (by decide) l (by omega) (by omega) V
        have hr1 := row_entries (w := V) (t := 66) hC1 hC2 (E k)
        have hb1 : Below V.heap.size V (V.alloc (.cells C 66)) := (Below.refl _ _).alloc (Nat.le_refl _) _
        have hblt : b < V.heap.size := Nat.lt_of_lt_of_le hbw hsz
        have hvr : ViewE V (some ad) l (E k) := by
          rcases hve with h | ⟨b2, off2, h1, h2, h3⟩
          · exact .inl h
          · refine .inr ⟨b2, off2, h1, by omega, fun j hj => ?_⟩
            rw [hL.below.cell (p := ⟨b2, off2 + j * 2, none⟩) h2, hL.below.cell (p := ⟨b2, off2 + j * 2 + 1, none⟩) h2]
            exact h3 j hj
        clear hC1 hC2 hve hL
        have HH : Hid (∀ (wi : World), Below V.heap.size V wi → wi.rowIs V.heap.size 66 (l * 2) (ecell (E k)) → LRel w (wi.setCell ⟨w.heap.size, k, none⟩ (.slice (some ⟨V.heap.size, 0, none⟩) l l)) 64 66 2 w.heap.size w.heap.size n (k + 1) (upd A' k (some ⟨V.heap.size, 0, none⟩)) ln (fun j => ecell (E j))) := HN
        have HS2 : Hid (∀ (wi : World), Below V.heap.size V wi → wi.cell? ⟨w.heap.size, k, none⟩ = some (.slice none 0 0) ∧ wi.frozen? ⟨w.heap.size, k, none⟩ = false) := HSl
        clear HN HSl
        rcases hvr with rfl | ⟨b2, off2, hae, hb2, hc2⟩
        · obtain ⟨s1, s2⟩ := HS2.out _ hb1
          have R := HH.out _ hb1 (hr1.congr fun j hj => absurd hj (by omega))
          have HR : Hid (LRel w ((V.alloc (.cells C 66)).setCell ⟨w.heap.size, k, none⟩ (.slice (some ⟨V.heap.size, 0, none⟩) 0 0)) 64 66 2 w.heap.size w.heap.size n (k + 1) (upd A' k (some ⟨V.heap.size, 0, none⟩)) ln (fun j => ecell (E j))) := R
          clear R HH HS2 hr1 hb1
          simp only [Int.natCast_zero] at hmk2
          have ckw : (V.alloc (.cells C 66)).cell? ⟨b, off + k, none⟩ = some (.slice (some ad) 0 (cp k)) := by rw [← ck]; exact Below.cell (B := V.heap.size) ((Below.refl _ _).alloc (Nat.le_refl _) _) hblt
          go_wp2
          go_loop [6] (fun j => j = .int .i64 0) (fun _ => 0)
          case atStart => rfl
          case round =>
            obtain rfl := hrel
            clear hmk2 hq2
            go_wp2
            go_roundw
            case rel => exact ⟨k + 1, _, by omega, by go_num, HR⟩
            case measure => simp [intOf]; omega
        · obtain rfl : ad = ⟨b2, off2, none⟩ := by simpa using hae
          go_wp2
          go_loopw [6] (fun j wi => ∃ m : Nat, m ≤ l ∧ j = .int .i64 m ∧ wi.rowIs V.heap.size 66 (l * 2) (ecell (upto m (E k) (0, 0))) ∧ Below V.heap.size V wi) (fun j _ => l - (intOf j).toNat)
          case atStart => exact ⟨0, Nat.zero_le _, rfl, hr1, hb1⟩
          case round =>
            obtain ⟨wi, rfl⟩ : ∃ V, V = wr := ⟨wr, rfl⟩
            obtain ⟨m, hm, rfl, hrow, hbel⟩ := hrel
            clear hmk2 hq2 hr1 hb1
            have ckw : wi.cell? ⟨b, off + k, none⟩ = some (.slice (some ⟨b2, off2, none⟩) l (cp k)) := (hbel.cell (p := ⟨b, off + k, none⟩) hblt).trans ck
            clear ck
            by_cases hml : m < l
            · obtain ⟨c0, c1⟩ := hc2 m hml
              rw [← hbel.cell (p := ⟨b2, _, none⟩) hb2] at c0 c1
              have R := eset2 hrow m (E k m)
              rw [upto_succ] at R
              obtain ⟨z0, z1⟩ := eget hrow hml
              have f0 := hrow.frozen (m * 2)
              have f1 := hrow.frozen (m * 2 + 1)
              obtain ⟨q0, hq0⟩ : ∃ q, (upto m (E k) (0, 0) m).1 = q := ⟨_, rfl⟩
              obtain ⟨q1, hq1⟩ : ∃ q, (upto m (E k) (0, 0) m).2 = q := ⟨_, rfl⟩
              rw [hq0] at z0
              rw [hq1] at z1
              clear hq0 hq1 hc2 hrow HH HS2
              go_wp2
              go_roundw
              case rel => exact ⟨m + 1, by omega, by go_num, R, (hbel.setCell (p := ⟨V.heap.size, _, none⟩) (Nat.le_refl _) _).setCell (p := ⟨V.heap.size, _, none⟩) (Nat.le_refl _) _⟩
              case measure => simp [intOf]; omega
            · obtain ⟨s1, s2⟩ := HS2.out _ hbel
              have HR : Hid (LRel w (wi.setCell ⟨w.heap.size, k, none⟩ (.slice (some ⟨V.heap.size, 0, none⟩) l l)) 64 66 2 w.heap.size w.heap.size n (k + 1) (upd A' k (some ⟨V.heap.size, 0, none⟩)) ln (fun j => ecell (E j))) := HH.out _ hbel (hrow.congr (ecell_congr fun x hx => upto_lt _ _ _ _ (by omega)))
              clear HH HS2 hrow hc2
              go_wp2
              go_roundw
              case rel => exact ⟨k + 1, _, by omega, by go_num, HR⟩
              case measure => simp [intOf]; omega
    · have : k = n := by omega
      subst this
      clear hc hq2
      go_wp2
      go_ret
      exact ⟨rfl, A', hL⟩

end Go.Proofs.Qxb6605516a
