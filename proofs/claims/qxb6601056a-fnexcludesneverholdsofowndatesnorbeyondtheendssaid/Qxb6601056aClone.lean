import Derived.Test.Qxb6601056aWalks
import Derived.Deep.OwnRows
namespace Go.Proofs.Qxb6601056a
open Go.RowKit Go.Deep

theorem info9 : (Try.prog.info? 9).map (fun i => (i.zero, i.size, i.bytes)) = some (some (.string ByteArray.empty), 1, 16) := by kernel_rfl

/-- The first k cells are the texts, the others are empty. -/
def upTo (S : Nat → ByteArray) (k j : Nat) : Value := if j < k then .string (S j) else .string ByteArray.empty

theorem upTo_step (S : Nat → ByteArray) (k n : Nat) {w : World} {B : Nat} (h : w.rowIs B 9 n (upTo S k)) : (w.setCell ⟨B, k, none⟩ (.string (S k))).rowIs B 9 n (upTo S (k + 1)) :=
  (h.set k _).congr fun i _ => by
    unfold upTo
    by_cases e : i = k
    · subst e; simp
    · by_cases l : i < k
      · rw [if_neg e, if_pos l, if_pos (by omega)]
      · rw [if_neg e, if_neg l, if_neg (by omega)]

set_option maxHeartbeats 400000 in
theorem clone_any (b off n c : Nat) (S : Nat → ByteArray) (w : World) (hn : n ≤ 65536) (hbw : b < w.heap.size)
    (hc : ∀ j, j < n → w.cell? ⟨b, off + j, none⟩ = some (.string (S j))) :
    Calls Try.prog 9 #[.slice (some ⟨b, off, none⟩) n c] w fun e w' => e = .returned (.slice (some ⟨w.heap.size, 0, none⟩) n n) ∧ w'.rowIs w.heap.size 9 n (fun j => .string (S j)) ∧ Below w.heap.size w w' := by
  have hmk := run_make_row' (P := Try.prog) 22 9 (.string ByteArray.empty) 16 Try.underlying22 info9 rfl .i64 .i64 n (by omega) (by omega)
  obtain ⟨B, hB⟩ : ∃ B, B = w.heap.size := ⟨_, rfl⟩
  have HB : Hid (B = w.heap.size) := hB
  have hr0 : (w.alloc (.cells (madeCells #[.string ByteArray.empty] n) 9)).rowIs w.heap.size 9 n (upTo S 0) := (World.rowIs_made _ _ _ _).congr fun i _ => by simp [upTo]
  clear hB
  go_enter Try.func9, Try.ntmps9
  go_wp2
  go_loopw [4] (fun i wr => ∃ k : Nat, k ≤ n ∧ i = .int .i64 k ∧ wr.rowIs w.heap.size 9 n (upTo S k) ∧ Below w.heap.size w wr) (fun i _ => n - (intOf i).toNat)
  case atStart => exact ⟨0, Nat.zero_le _, rfl, hr0, (Below.refl _ _).alloc (Nat.le_refl _) _⟩
  case round =>
    obtain ⟨k, hk, rfl, hrow, hbel⟩ := hrel
    by_cases hlt : k < n
    · have ck : wr.cell? ⟨b, off + k, none⟩ = some (.string (S k)) := (hbel.cell (p := ⟨b, off + k, none⟩) hbw).trans (hc k hlt)
      have R := upTo_step S k n hrow
      have fz := hrow.frozen k
      have cz := hrow.cell hlt
      obtain ⟨vz, hvz⟩ : ∃ vz, upTo S k k = vz := ⟨_, rfl⟩
      rw [hvz] at cz
      clear hvz hc hrow hmk hr0
      go_wp2
      go_roundw
      case rel => exact ⟨k + 1, by omega, by go_num, R, hbel.setCell (p := ⟨w.heap.size, k, none⟩) (Nat.le_refl _) _⟩
      case measure => simp [intOf]; omega
    · clear hc hmk hr0
      go_wp2
      go_ret
      exact ⟨rfl, hrow.congr fun i hi => by simp [upTo]; omega, hbel⟩

end Go.Proofs.Qxb6601056a
