import Derived.Test.Qxb6605516aBase
namespace Go.Proofs.Qxb6605516a
open Go.RowKit Go.Deep
open Pl (I3 E2)

/-- What these walks are told of the lists' lengths: nought of them, or each read off its cell. -/
def LensAt (w : World) (a : Option Addr) (n : Nat) (A : Nat → Option Addr) (ln cp : Nat → Nat) : Prop :=
  n = 0 ∨ ∃ b off, a = some ⟨b, off, none⟩ ∧ ∀ j, j < n → w.cell? ⟨b, off + j, none⟩ = some (.slice (A j) (ln j) (cp j))

theorem ViewL.lens {w : World} {a : Option Addr} {n : Nat} {A : Nat → Option Addr} {ln cp : Nat → Nat} {E : Nat → Nat → E2} (h : ViewL w a n A ln cp E) : LensAt w a n A ln cp := by
  rcases h with h | ⟨b, off, h1, _, h3⟩
  · exact .inl h
  · exact .inr ⟨b, off, h1, fun j hj => (h3 j hj).1⟩

set_option maxHeartbeats 400000 in
set_option maxRecDepth 100000 in
theorem zzBytes_any (ai al an : Option Addr) (n ci nl cl nn cn : Nat) (t1 d1 t2 d2 : Int) (A : Nat → Option Addr) (ln cp : Nat → Nat) (w : World) (hn : n ≤ maxLen) (hnl : nl ≤ maxLen) (hnn : nn ≤ maxLen)
    (hln : ∀ j, j < nl → ln j ≤ maxLen) (hv : LensAt w al nl A ln cp) :
    Calls Try.prog 32 #[.slice ai n ci, .slice al nl cl, .slice an nn cn, .int .i32 t1, .int .i32 d1, .int .i32 t2, .int .i32 d2] w fun e w' => RetB e (n ≤ 1048576 ∧ nl ≤ 1048576 ∧ nn ≤ 1048576) (w' = w) := by
  unfold maxLen at hn hnl hnn
  rcases hv with rfl | ⟨b, off, rfl, hc⟩
  · go_enter Try.func32, Try.ntmps32
    go_wp2
    all_goals try (go_ret; exact ⟨_, rfl, fun h => absurd h (by decide), rfl⟩)
    go_loop [15, 16] (fun z i => ∃ s : Nat, z = .int .i64 s ∧ s ≤ 1048576 ∧ n ≤ 1048576 ∧ i = .int .i64 0) (fun _ _ => 0)
    case atStart => exact ⟨n, by go_num, by omega, by omega, rfl⟩
    case round =>
      obtain ⟨s, rfl, hs, hn2, rfl⟩ := hrel
      go_wp2
      all_goals
        go_ret
        first | exact ⟨_, rfl, fun h => absurd h (by decide), rfl⟩ | exact ⟨_, rfl, fun _ => by omega, rfl⟩
  · go_enter Try.func32, Try.ntmps32
    go_wp2
    all_goals try (go_ret; exact ⟨_, rfl, fun h => absurd h (by decide), rfl⟩)
    go_loop [15, 16] (fun z i => ∃ s k : Nat, z = .int .i64 s ∧ s ≤ 1048576 ∧ i = .int .i64 k ∧ k ≤ nl ∧ n ≤ 1048576 ∧ nl ≤ 1048576) (fun _ i => nl - (intOf i).toNat)
    case atStart => exact ⟨n + nl, 0, by go_num, by omega, rfl, Nat.zero_le _, by omega, by omega⟩
    case round =>
      obtain ⟨s, k, rfl, hs, rfl, hk, hn2, hnl2⟩ := hrel
      by_cases hlt : k < nl
      · have ck := hc k hlt
        have hl := hln k hlt
        unfold maxLen at hl
        clear hc hln
        go_wp2
        · go_ret
          exact ⟨_, rfl, fun h => absurd h (by decide), rfl⟩
        · go_ret
          exact ⟨_, rfl, fun h => absurd h (by decide), rfl⟩
        · go_round
          case rel => exact ⟨s + ln k, k + 1, by go_num, by omega, by go_num, by omega, hn2, hnl2⟩
          case measure => simp [intOf]; omega
      · clear hc hln
        go_wp2
        all_goals
          go_ret
          first | exact ⟨_, rfl, fun h => absurd h (by decide), rfl⟩ | exact ⟨_, rfl, fun _ => by omega, rfl⟩

set_option maxHeartbeats 400000 in
set_option maxRecDepth 100000 in
theorem stepBytes_any (ai al an : Option Addr) (n ci nl cl nn cn : Nat) (A : Nat → Option Addr) (ln cp : Nat → Nat) (w : World) (hn : n ≤ 1048576) (hnl : nl ≤ 1048576) (hnn : nn ≤ 1048576)
    (hln : ∀ j, j < nl → ln j ≤ maxLen) (hv : LensAt w al nl A ln cp) :
    Calls Try.prog 21 #[.slice ai n ci, .slice al nl cl, .slice an nn cn, .slice none 0 0] w fun e w' => RetI e (∀ j, j < nl → ln j ≤ 131072) (w' = w) := by
  rcases hv with rfl | ⟨b, off, rfl, hc⟩
  · go_enter Try.func21, Try.ntmps21
    go_wp2
    all_goals try (go_ret; exact ⟨_, rfl, fun _ j hj => absurd hj (Nat.not_lt_zero _), rfl⟩)
    go_loop [9, 10] (fun z i => ∃ s : Nat, z = .int .i64 s ∧ s ≤ 1048576 ∧ i = .int .i64 0) (fun _ _ => 0)
    case atStart => exact ⟨12 * n + 4 * nn, by go_num, by omega, rfl⟩
    case round =>
      obtain ⟨s, rfl, hs, rfl⟩ := hrel
      go_wp2
      all_goals
        go_ret
        exact ⟨_, rfl, fun _ => by first | trivial | (intro j hj; omega), rfl⟩
  · go_enter Try.func21, Try.ntmps21
    go_wp2
    all_goals try (go_ret; exact ⟨_, rfl, fun h => absurd h (by decide), rfl⟩)
    go_loop [9, 10] (fun z i => ∃ s k : Nat, z = .int .i64 s ∧ s ≤ 1048576 ∧ i = .int .i64 k ∧ k ≤ nl ∧ Hid (∀ j, j < k → ln j ≤ 131072)) (fun _ i => nl - (intOf i).toNat)
    case atStart => exact ⟨12 * n + 24 * nl + 4 * nn, 0, by go_num, by omega, rfl, Nat.zero_le _, fun j hj => absurd hj (Nat.not_lt_zero _)⟩
    case round =>
      obtain ⟨s, k, rfl, hs, rfl, hk, HA⟩ := hrel
      by_cases hlt : k < nl
      · have ck := hc k hlt
        have hl := hln k hlt
        unfold maxLen at hl
        clear hc hln
        go_wp2
        · go_ret
          exact ⟨_, rfl, fun h => absurd h (by decide), rfl⟩
        · go_round
          case rel =>
            refine ⟨s + 8 * ln k, k + 1, by go_num, by omega, by go_num, by omega, ?_⟩
            intro j hj
            by_cases e : j = k
            · subst e; omega
            · exact HA.out j (by omega)
          case measure => simp [intOf]; omega
      · clear hc hln
        go_wp2
        go_ret
        exact ⟨_, rfl, fun _ j hj => HA.out j (by omega), rfl⟩

end Go.Proofs.Qxb6605516a
