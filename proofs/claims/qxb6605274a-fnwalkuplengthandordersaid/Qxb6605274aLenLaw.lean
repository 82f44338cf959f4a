import Derived.Test.Qxb6605274aUp
import Derived.Test.Qxb6605274aIndex
namespace Go.Proofs.Qxb6605274a
open Go.RowKit

theorem bytes15_yes (t s g : ByteArray) (w : World) (hsum : t.size + s.size + g.size ≤ 1048576) :
    Calls Try.prog 15 #[.string t, .string s, .string g] w fun e w' => e = .returned (.bool true) ∧ w' = w := by
  go_enter Try.func15, Try.ntmps15
  go_wp2
  go_ret
  exact ⟨rfl, rfl⟩

theorem bytes15_no (t s g : ByteArray) (w : World) (ht : t.size ≤ maxLen) (hs : s.size ≤ maxLen) (hg : g.size ≤ maxLen) (hsum : 1048576 < t.size + s.size + g.size) :
    Calls Try.prog 15 #[.string t, .string s, .string g] w fun e w' => e = .returned (.bool false) ∧ w' = w := by
  unfold maxLen at ht hs hg
  go_enter Try.func15, Try.ntmps15
  go_wp2
  all_goals
    go_ret
    exact ⟨rfl, rfl⟩

set_option maxHeartbeats 400000 in
theorem len_law (t s g : ByteArray) (w : World) (ht : t.size ≤ maxLen) (hs : s.size ≤ maxLen) (hg : g.size ≤ maxLen) :
    Calls Try.prog 5 #[.string t, .string s, .string g] w fun e w' => e = .returned (.bool true) ∧ Below w.heap.size w w' := by
  by_cases hsum : t.size + s.size + g.size ≤ 1048576
  · have h1 := bytes15_yes t s g w hsum
    obtain ⟨r0, hr0⟩ : ∃ r, Pl.fill ⟨#[]⟩ ⟨#[]⟩ ⟨#[]⟩ = r := ⟨_, rfl⟩
    obtain ⟨r, hr⟩ : ∃ r, Pl.fill t s g = r := ⟨_, rfl⟩
    have z0 : r0.size = 332 := by rw [← hr0]; exact Pl.fill_size _ _ _
    have z1 : r.size = 332 + 2 * t.size + s.size + g.size := by rw [← hr]; exact Pl.fill_size _ _ _
    have u0 : Calls Try.prog 11 #[.string ⟨#[]⟩, .string ⟨#[]⟩, .string ⟨#[]⟩] w fun e w' => e = .returned (.string r0) ∧ w' = w := by
      rw [← hr0]; exact zzUp_any _ _ _ w (Nat.zero_le _) (Nat.zero_le _) (Nat.zero_le _)
    have u1 : Calls Try.prog 11 #[.string t, .string s, .string g] w fun e w' => e = .returned (.string r) ∧ w' = w := by
      rw [← hr]; exact zzUp_any t s g w (by omega) (by omega) (by omega)
    have i0 : Calls Try.prog 16 #[.string r, .string t, .int .i64 0] w fun e w' => RetAt e 0 0 (∃ q, w' = w.drewN q) :=
      index_any r t 0 0 w (by omega) (by omega) (Nat.le_refl _) (fun x h => by subst hr; exact Pl.occ0 t s g x h _)
    have i1 : ∀ q, Calls Try.prog 16 #[.string r, .string s, .int .i64 (t.size : Int)] (w.drewN q) fun e w' => RetAt e t.size (t.size + 117) (∃ q', w' = w.drewN q') := fun q =>
      (index_any r s t.size (t.size + 117) (w.drewN q) (by omega) (by omega) (by omega) (fun x h => by subst hr; exact Pl.occ1 t s g x h _)).mono
        fun e w' ⟨i, h1, h2, h3, q', h4⟩ => ⟨i, h1, h2, h3, q + q', by rw [h4, World.drewN_drewN]⟩
    have i2 : ∀ q (i : Nat), i ≤ t.size + 117 → Calls Try.prog 16 #[.string r, .string t, .int .i64 ((i : Int) + (s.size : Int))] (w.drewN q) fun e w' => RetAt e 0 (t.size + s.size + 193) (∃ q', w' = w.drewN q') := fun q i hi =>
      (index_any r t (i + s.size) (t.size + s.size + 193) (w.drewN q) (by omega) (by omega) (by omega) (fun x h => by subst hr; exact Pl.occ2 t s g x h _)).mono
        fun e w' ⟨i, h1, h2, h3, q', h4⟩ => ⟨i, h1, Nat.zero_le _, h3, q + q', by rw [h4, World.drewN_drewN]⟩
    have i3 : ∀ q (i : Nat), i ≤ t.size + s.size + 193 → Calls Try.prog 16 #[.string r, .string g, .int .i64 ((i : Int) + (t.size : Int))] (w.drewN q) fun e w' => RetAt e 0 (t.size + t.size + s.size + 329) (∃ q', w' = w.drewN q') := fun q i hi =>
      (index_any r g (i + t.size) (t.size + t.size + s.size + 329) (w.drewN q) (by omega) (by omega) (by omega) (fun x h => by subst hr; exact Pl.occ3 t s g x h _)).mono
        fun e w' ⟨i, h1, h2, h3, q', h4⟩ => ⟨i, h1, Nat.zero_le _, h3, q + q', by rw [h4, World.drewN_drewN]⟩
    have lt : r.size - 1 < r.size := by omega
    have last : r[r.size - 1] = 41 := Pl.fill_last t s g r hr _ lt (by omega)
    have z1a : r.size ≤ 332 + 2 * t.size + s.size + g.size := by omega
    have z1b : 332 + 2 * t.size + s.size + g.size ≤ r.size := by omega
    clear hr0 hr z1
    go_enter Try.func5, Try.ntmps5
    go_wp2_with fail
    refine h1.mono ?_
    rintro e w' ⟨rfl, hw⟩
    obtain rfl := hw.symm
    clear h1
    go_wp2_with fail
    refine u0.mono ?_
    rintro e w' ⟨rfl, hw⟩
    obtain rfl := hw.symm
    clear u0
    go_wp2_with fail
    refine u1.mono ?_
    rintro e w' ⟨rfl, hw⟩
    obtain rfl := hw.symm
    clear u1
    go_wp2_with fail
    refine i0.mono ?_
    rintro e w' ⟨i, rfl, _, hi, q, rfl⟩
    obtain rfl : i = 0 := by omega
    clear i0
    go_wp2_with fail
    refine (i1 q).mono ?_
    rintro e w' ⟨i, rfl, hi1, hi2, q, rfl⟩
    clear i1
    go_wp2_with fail
    refine (i2 q i hi2).mono ?_
    rintro e w' ⟨j, rfl, hj1, hj2, q, rfl⟩
    clear i2
    go_wp2_with fail
    refine (i3 q j hj2).mono ?_
    rintro e w' ⟨k, rfl, hk1, hk2, q, rfl⟩
    clear i3
    go_wp2
    go_ret
    exact ⟨by simp, below_drewN (Below.refl _ _) _⟩
  · go_enter Try.func5, Try.ntmps5
    go_wp2_with fail
    refine (bytes15_no t s g w ht hs hg (by omega)).mono ?_
    rintro e w' ⟨rfl, hw⟩
    obtain rfl := hw.symm
    go_wp2
    go_ret
    exact ⟨rfl, Below.refl _ _⟩

end Go.Proofs.Qxb6605274a
