import Derived.Test.Qxb6601056aWalks
import Derived.Deep.Draws
namespace Go.Proofs.Qxb6601056a
open Go.RowKit

set_option maxHeartbeats 400000 in
theorem asc_any (b off n c : Nat) (S : Nat → ByteArray) (w : World) (hn : n ≤ 65536)
    (hc : ∀ j, j < n → w.cell? ⟨b, off + j, none⟩ = some (.string (S j))) :
    Calls Try.prog 8 #[.slice (some ⟨b, off, none⟩) n c] w fun e w' => RetB e (∀ j, j + 1 < n → Op.bytesLess (S j).toList (S (j + 1)).toList = true) (∃ q, w' = w.drewN q) := by
  go_enter Try.func8, Try.ntmps8
  go_wp2
  go_loopw [3] (fun i wr => ∃ k q : Nat, k ≤ n ∧ i = .int .i64 ((k : Int) + 1) ∧ wr = w.drewN q ∧ ∀ j, j < k → j + 1 < n → Op.bytesLess (S j).toList (S (j + 1)).toList = true) (fun i _ => n - (intOf i).toNat)
  case atStart => exact ⟨0, 0, Nat.zero_le _, rfl, rfl, fun j hj => absurd hj (Nat.not_lt_zero _)⟩
  case round =>
    obtain ⟨k, q, hk, rfl, rfl, hall⟩ := hrel
    have HA : Hid (∀ j, j < k → j + 1 < n → Op.bytesLess (S j).toList (S (j + 1)).toList = true) := hall
    clear hall
    by_cases hlt : k + 1 < n
    · obtain ⟨x, hx⟩ : ∃ x, S k = x := ⟨_, rfl⟩
      obtain ⟨y, hy⟩ : ∃ y, S (k + 1) = y := ⟨_, rfl⟩
      have ck := hc k (by omega)
      have ck1 := hc (k + 1) hlt
      rw [hx] at ck
      rw [hy] at ck1
      have HX : Hid (S k = x) := hx
      have HY : Hid (S (k + 1) = y) := hy
      clear hx hy hc
      cases hb : Op.bytesLess x.toList y.toList
      · go_wp2
        go_region
        all_goals
          go_wp2
          go_ret
          exact ⟨false, rfl, fun h => absurd h (by simp), _, rfl⟩
      · go_wp2
        go_region
        all_goals
          go_wp2
          go_roundw
          case rel =>
            refine ⟨k + 1, _, by omega, by go_num, rfl, ?_⟩
            intro j hj hj2
            by_cases e : j = k
            · subst e; rw [HX.out, HY.out]; exact hb
            · exact HA.out j (by omega) hj2
          case measure => simp [intOf]; omega
    · clear hc
      go_wp2
      go_ret
      exact ⟨true, rfl, fun _ j hj => HA.out j (by omega) (by omega), _, rfl⟩

end Go.Proofs.Qxb6601056a
