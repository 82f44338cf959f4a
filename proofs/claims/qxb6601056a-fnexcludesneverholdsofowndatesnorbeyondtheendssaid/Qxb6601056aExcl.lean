import Derived.Test.Qxb6601056aSearch
import Derived.Deep.QuietTactic
import Derived.BigQuiet
import Derived.Deep.Draws
namespace Go.Proofs.Qxb6601056a
open Go.RowKit

/-- Before the first date: not excluded. -/
theorem excl_before (cb b off n c : Nat) (x y0 : ByteArray) (w : World) (h0 : 0 < n)
    (hs : w.cell? ⟨cb, 1, none⟩ = some (.slice (some ⟨b, off, none⟩) n c)) (hc : w.cell? ⟨b, off, none⟩ = some (.string y0)) (hl : Op.bytesLess x.toList y0.toList = true) :
    Calls Try.prog 11 #[.pointer (some ⟨cb, 0, none⟩), .string x] w fun e w' => e = .returned (.bool false) ∧ ∃ q, w' = w.drewN q := by
  go_enter Try.func11, Try.ntmps11
  go_wp2
  go_quiet (fail)
  go_wp2
  go_ret
  exact ⟨rfl, _, rfl⟩

/-- Behind the last: not excluded. -/
theorem excl_behind (cb b off n c : Nat) (x y0 y1 : ByteArray) (w : World) (h0 : 0 < n) (hn : n ≤ 65536)
    (hs : w.cell? ⟨cb, 1, none⟩ = some (.slice (some ⟨b, off, none⟩) n c)) (hc : w.cell? ⟨b, off, none⟩ = some (.string y0)) (hc1 : w.cell? ⟨b, off + (n - 1), none⟩ = some (.string y1))
    (hl : Op.bytesLess x.toList y0.toList = false) (hg : (Op.bytesLess x.toList y1.toList || x.toList == y1.toList) = false) :
    Calls Try.prog 11 #[.pointer (some ⟨cb, 0, none⟩), .string x] w fun e w' => e = .returned (.bool false) ∧ ∃ q, w' = w.drewN q := by
  go_enter Try.func11, Try.ntmps11
  go_wp2
  go_quiet (fail)
  go_wp2
  go_ret
  exact ⟨rfl, _, rfl⟩

/-- A date of the calendar: not excluded. -/
theorem excl_own (cb b off n c k : Nat) (S : Nat → ByteArray) (x : ByteArray) (w : World) (hk : k < n) (hn : n ≤ 65536) (hx : S k = x)
    (hs : w.cell? ⟨cb, 1, none⟩ = some (.slice (some ⟨b, off, none⟩) n c)) (hc : ∀ j, j < n → w.cell? ⟨b, off + j, none⟩ = some (.string (S j)))
    (hasc : ∀ j, j + 1 < n → Op.bytesLess (S j).toList (S (j + 1)).toList = true) :
    Calls Try.prog 11 #[.pointer (some ⟨cb, 0, none⟩), .string x] w fun e w' => e = .returned (.bool false) ∧ ∃ q, w' = w.drewN q := by
  have l0 : Op.bytesLess x.toList (S 0).toList = false := by rw [← hx]; exact Pl.asc_le n (fun j => (S j).toList) hasc 0 k (Nat.zero_le _) hk
  have g1 : (Op.bytesLess x.toList (S (n - 1)).toList || x.toList == (S (n - 1)).toList) = true := by
    rw [← hx]
    by_cases e : k = n - 1
    · rw [← e]; simp
    · have := Pl.asc_lt n (fun j => (S j).toList) hasc k (n - 1) (by omega) (by omega)
      rw [this]; rfl
  have bs : ∀ q, Calls Try.prog 16 #[.slice (some ⟨b, off, none⟩) n c, .string x] (w.drewN q) fun e w' => e = .returned (.tuple #[.int .i64 k, .bool true]) ∧ w' = w.drewN q := fun q =>
    bs_found b off n c k S x (w.drewN q) hn hk hx (fun j hj => by simpa using hc j hj)
      (fun j hj => by rw [← hx]; exact Pl.asc_lt n (fun j => (S j).toList) hasc j k hj hk) (fun j hj hjn => by rw [← hx]; exact Pl.asc_le n (fun j => (S j).toList) hasc k j hj hjn)
  have c0 : w.cell? ⟨b, off, none⟩ = some (.string (S 0)) := hc 0 (by omega)
  have c1 := hc (n - 1) (by omega)
  have h0 : 0 < n := by omega
  obtain ⟨y0, hy0⟩ : ∃ y, S 0 = y := ⟨_, rfl⟩
  obtain ⟨y1, hy1⟩ : ∃ y, S (n - 1) = y := ⟨_, rfl⟩
  rw [hy0] at l0 c0
  rw [hy1] at g1 c1
  clear hy0 hy1 hc hasc hx
  go_enter Try.func11, Try.ntmps11
  go_wp2
  go_quiet (fail)
  go_wp2_with fail
  refine (bs _).mono ?_
  rintro e w' ⟨rfl, rfl⟩
  go_wp2
  go_ret
  exact ⟨rfl, _, rfl⟩

end Go.Proofs.Qxb6601056a
