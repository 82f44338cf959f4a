import Derived.Test.Qxb6601056aRows
import Derived.Test.Qxb6601056aPlain
import Derived.WalkKit
import Derived.WalkSpells
import Derived.WalkLawsBesides
namespace Go.Proofs.Qxb6601056a
open Go.RowKit

/-- It returns a bool; if that is true then T holds. -/
def RetB (e : Ending) (T : Prop) (W : Prop) : Prop := ∃ B, e = .returned (.bool B) ∧ (B = true → T) ∧ W

set_option maxHeartbeats 400000 in
theorem zzBytes_any (b off n c : Nat) (S : Nat → ByteArray) (w : World) (hn : n ≤ maxLen) (hs : ∀ j, j < n → (S j).size ≤ maxLen)
    (hc : ∀ j, j < n → w.cell? ⟨b, off + j, none⟩ = some (.string (S j))) :
    Calls Try.prog 13 #[.slice (some ⟨b, off, none⟩) n c] w fun e w' => RetB e (∀ j, j < n → (S j).size ≤ 1048576) (w' = w) := by
  unfold maxLen at hn
  by_cases hbig : n ≤ 1048576
  · go_enter Try.func13, Try.ntmps13
    go_wp2
    go_loop [3, 4] (fun z i => ∃ k s : Nat, k ≤ n ∧ i = .int .i64 k ∧ z = .int .i64 s ∧ s ≤ 1048576 ∧ ∀ j, j < k → (S j).size ≤ 1048576) (fun _ i => n - (intOf i).toNat)
    case atStart => exact ⟨0, n, Nat.zero_le _, rfl, rfl, hbig, fun j hj => absurd hj (Nat.not_lt_zero _)⟩
    case round =>
      obtain ⟨k, s, hk, rfl, rfl, hs1, hall⟩ := hrel
      have HA : Hid (∀ j, j < k → (S j).size ≤ 1048576) := hall
      clear hall
      by_cases hlt : k < n
      · obtain ⟨x, hx⟩ : ∃ x, S k = x := ⟨_, rfl⟩
        have ck := hc k hlt
        have hxs := hs k hlt
        rw [hx] at ck hxs
        unfold maxLen at hxs
        have HX : Hid (S k = x) := hx
        clear hx hc hs
        go_wp2
        · go_ret
          exact ⟨false, rfl, fun h => absurd h (by simp), rfl⟩
        · go_ret
          exact ⟨false, rfl, fun h => absurd h (by simp), rfl⟩
        · go_round
          case rel =>
            refine ⟨k + 1, s + x.size, by omega, by go_num, by go_num, by omega, ?_⟩
            intro j hj
            by_cases e : j = k
            · subst e; rw [HX.out]; omega
            · exact HA.out j (by omega)
          case measure => simp [intOf]; omega
      · clear hc hs
        go_wp2
        go_ret
        exact ⟨true, rfl, fun _ j hj => HA.out j (by omega), rfl⟩
  · go_enter Try.func13, Try.ntmps13
    go_wp2
    go_ret
    exact ⟨false, rfl, fun h => absurd h (by simp), rfl⟩

theorem zzBytes_nil (a : Option Addr) (c : Nat) (w : World) (T : Prop) (hT : T) :
    Calls Try.prog 13 #[.slice a 0 c] w fun e w' => RetB e T (w' = w) := by
  go_enter Try.func13, Try.ntmps13
  go_wp2
  go_loop [3, 4] (fun z i => z = .int .i64 0 ∧ i = .int .i64 0) (fun _ _ => 0)
  case atStart => exact ⟨rfl, rfl⟩
  case round =>
    obtain ⟨rfl, rfl⟩ := hrel
    go_wp2
    go_ret
    exact ⟨true, rfl, fun _ => hT, rfl⟩

/-- It returns an integer. -/
def RetI (e : Ending) (W : Prop) : Prop := ∃ x, e = .returned (.int .i64 x) ∧ W

theorem zzcalBytes_nil (a : Option Addr) (c : Nat) (w : World) :
    Calls Try.prog 7 #[.slice a 0 c] w fun e w' => RetI e (w' = w) := by
  go_enter Try.func7, Try.ntmps7
  go_wp2
  go_loop [3, 4] (fun z i => z = .int .i64 0 ∧ i = .int .i64 0) (fun _ _ => 0)
  case atStart => exact ⟨rfl, rfl⟩
  case round =>
    obtain ⟨rfl, rfl⟩ := hrel
    go_wp2
    go_ret
    exact ⟨0, rfl, rfl⟩

set_option maxHeartbeats 400000 in
theorem zzcalBytes_any (b off n c : Nat) (S : Nat → ByteArray) (w : World) (hn : n ≤ 65536) (hs : ∀ j, j < n → (S j).size ≤ 1048576)
    (hc : ∀ j, j < n → w.cell? ⟨b, off + j, none⟩ = some (.string (S j))) :
    Calls Try.prog 7 #[.slice (some ⟨b, off, none⟩) n c] w fun e w' => RetI e (w' = w) := by
  go_enter Try.func7, Try.ntmps7
  go_wp2
  go_loop [3, 4] (fun z i => ∃ k s : Nat, k ≤ n ∧ i = .int .i64 k ∧ z = .int .i64 s ∧ s ≤ 1048576) (fun _ i => n - (intOf i).toNat)
  case atStart => exact ⟨0, 8 * n, Nat.zero_le _, rfl, by go_num, by omega⟩
  case round =>
    obtain ⟨k, s, hk, rfl, rfl, hs1⟩ := hrel
    by_cases hlt : k < n
    · obtain ⟨x, hx⟩ : ∃ x, S k = x := ⟨_, rfl⟩
      have ck := hc k hlt
      have hxs := hs k hlt
      rw [hx] at ck hxs
      clear hx hc hs
      go_wp2
      · go_ret
        exact ⟨_, rfl, rfl⟩
      · go_round
        case rel => exact ⟨k + 1, s + x.size, by omega, by go_num, by go_num, by omega⟩
        case measure => simp [intOf]; omega
    · clear hc hs
      go_wp2
      go_ret
      exact ⟨_, rfl, rfl⟩

theorem ZZNew_any (v : Value) (a : Option Addr) (n c : Nat) (hv : v = .slice a n c) (w : World) :
    Calls Try.prog 10 #[v] w fun e w' => e = .returned (.pointer (some ⟨w.heap.size, 0, none⟩)) ∧ w' = w.alloc (.cells #[.slice none 0 0, v] 33) := by
  subst hv
  go_enter Try.func10, Try.ntmps10
  go_wp2
  go_ret
  exact ⟨rfl, rfl⟩

end Go.Proofs.Qxb6601056a
