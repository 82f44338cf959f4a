import Derived.Test.Qxb6601056aWalks
namespace Go.Proofs.Qxb6601056a
open Go.RowKit

theorem nan19 (x : ByteArray) (w : World) : Calls Try.prog 19 #[.string x] w fun e w' => e = .returned (.bool false) ∧ w' = w := by
  go_enter Try.func19, Try.ntmps19
  go_wp2
  go_ret
  exact ⟨by simp, rfl⟩

theorem nan18 (x : ByteArray) (w : World) : Calls Try.prog 18 #[.string x] w fun e w' => e = .returned (.bool false) ∧ w' = w := by
  go_enter Try.func18, Try.ntmps18
  go_wp2
  go_ret
  exact ⟨by simp, rfl⟩

theorem less17 (x y : ByteArray) (w : World) : Calls Try.prog 17 #[.string x, .string y] w fun e w' => e = .returned (.bool (Op.bytesLess x.toList y.toList)) ∧ w' = w := by
  go_enter Try.func17, Try.ntmps17
  go_wp2_with (go_at_call 19; refine (nan19 _ _).mono ?_; rintro e w' ⟨rfl, rfl⟩)
  go_ret
  exact ⟨rfl, rfl⟩

set_option maxHeartbeats 400000 in
theorem bs_found (b off n c k : Nat) (S : Nat → ByteArray) (x : ByteArray) (w : World) (hn : n ≤ 65536) (hk : k < n) (hx : S k = x)
    (hc : ∀ j, j < n → w.cell? ⟨b, off + j, none⟩ = some (.string (S j)))
    (hlo : ∀ j, j < k → Op.bytesLess (S j).toList x.toList = true) (hhi : ∀ j, k ≤ j → j < n → Op.bytesLess (S j).toList x.toList = false) :
    Calls Try.prog 16 #[.slice (some ⟨b, off, none⟩) n c, .string x] w fun e w' => e = .returned (.tuple #[.int .i64 k, .bool true]) ∧ w' = w := by
  have HX : Hid (S k = x) := hx
  clear hx
  go_enter Try.func16, Try.ntmps16
  go_wp2
  go_loop [7, 8] (fun p q => ∃ lo hi : Nat, p = .int .i64 lo ∧ q = .int .i64 hi ∧ lo ≤ k ∧ k ≤ hi ∧ hi ≤ n) (fun p q => ((intOf q) - (intOf p)).toNat)
  case atStart => exact ⟨0, n, rfl, rfl, Nat.zero_le _, by omega, Nat.le_refl _⟩
  case round =>
    obtain ⟨lo, hi, rfl, rfl, hlk, hkh, hhn⟩ := hrel
    by_cases hlt : lo < hi
    · have cm : w.cell? ⟨b, off + (lo + hi) / 2, none⟩ = some (.string (S ((lo + hi) / 2))) := hc _ (by omega)
      obtain ⟨y, hy⟩ : ∃ y, S ((lo + hi) / 2) = y := ⟨_, rfl⟩
      by_cases hm : (lo + hi) / 2 < k
      · have hl := hlo _ hm
        rw [hy] at cm hl
        clear hc hlo hhi hy
        go_wp2_with (go_at_call 17; refine (less17 _ _ _).mono ?_; rintro e w' ⟨rfl, rfl⟩)
        go_round
        case rel => exact ⟨(lo + hi) / 2 + 1, hi, by go_num, rfl, by omega, hkh, hhn⟩
        case measure => simp [intOf]; omega
      · have hl := hhi _ (by omega) (show (lo + hi) / 2 < n by omega)
        rw [hy] at cm hl
        clear hc hlo hhi hy
        go_wp2_with (go_at_call 17; refine (less17 _ _ _).mono ?_; rintro e w' ⟨rfl, rfl⟩)
        go_round
        case rel => exact ⟨lo, (lo + hi) / 2, rfl, by go_num, hlk, by omega, by omega⟩
        case measure => simp [intOf]; omega
    · have e1 : lo = k := by omega
      have e2 : hi = k := by omega
      subst e1
      subst e2
      have ck := hc _ hk
      rw [HX.out] at ck
      clear hc hlo hhi
      go_wp2_with (go_at_call 18; refine (nan18 _ _).mono ?_; rintro e w' ⟨rfl, rfl⟩)
      go_ret2
      exact ⟨by simp, rfl⟩

end Go.Proofs.Qxb6601056a
