import Derived.Test.Qxb6605274aRows
import Derived.WalkKit
import Derived.WalkSpells
import Derived.WalkLawsBesides
import Derived.Deep.QuietTactic
import Derived.BigQuiet
import Derived.Deep.Draws
namespace Go.Proofs.Qxb6605274a
open Go.RowKit

/-- It returns an index from f to p. -/
def RetAt (e : Ending) (f p : Nat) (W : Prop) : Prop := ∃ i : Nat, e = .returned (.int .i64 i) ∧ f ≤ i ∧ i ≤ p ∧ W

set_option maxHeartbeats 400000 in
theorem index_any (s sub : ByteArray) (f p : Nat) (w : World) (hs : s.size ≤ 16777216) (hp : p + sub.size ≤ s.size) (hf : f ≤ p)
    (hocc : ∀ x (h : x < sub.size), s[p + x]'(by omega) = sub[x]) :
    Calls Try.prog 16 #[.string s, .string sub, .int .i64 f] w fun e w' => RetAt e f p (∃ q, w' = w.drewN q) := by
  have HO : Hid (∀ x (h : x < sub.size), s[p + x]'(by omega) = sub[x]) := hocc
  clear hocc
  go_enter Try.func16, Try.ntmps16
  go_wp2
  go_loopw [7] (fun i wr => ∃ k q : Nat, i = .int .i64 k ∧ f ≤ k ∧ k ≤ p ∧ wr = w.drewN q) (fun i _ => p + 1 - (intOf i).toNat)
  case atStart => exact ⟨f, 0, rfl, Nat.le_refl _, hf, rfl⟩
  case round =>
    obtain ⟨k, q, rfl, hfk, hkp, rfl⟩ := hrel
    go_wp2
    go_loopw [8] (fun j wr => ∃ m q : Nat, j = .int .i64 m ∧ m ≤ sub.size ∧ wr = w.drewN q) (fun j _ => sub.size - (intOf j).toNat)
    case atStart => exact ⟨0, q, rfl, Nat.zero_le _, rfl⟩
    case round =>
      obtain ⟨m, q, rfl, hm, rfl⟩ := hrel
      by_cases hlt : m < sub.size
      · by_cases heq : s[k + m]'(by omega) = sub[m]
        · have hd : decide ((m : Int) < (sub.size : Int)) = true := by simpa using hlt
          have hw1 : IntKind.i64.wrap ((k : Int) + (m : Int)) = (k : Int) + (m : Int) := by rw [IntKind.wrap_i64]; omega
          have ix1 : (k : Int) + (m : Int) < (s.size : Int) := by omega
          have ix2 : (0 : Int) ≤ (k : Int) + (m : Int) := by omega
          have ix3 : k + m < s.size := by omega
          have heb : ((s[k + m].toNat : Int) == (sub[m].toNat : Int)) = true := by rw [heq]; simp
          clear heq
          go_wp2
          go_quiet (fail)
          go_wp2
          go_roundw
          case rel => exact ⟨m + 1, _, by go_num, by omega, rfl⟩
          case measure => simp [intOf]; omega
        · have hd : decide ((m : Int) < (sub.size : Int)) = true := by simpa using hlt
          have hw1 : IntKind.i64.wrap ((k : Int) + (m : Int)) = (k : Int) + (m : Int) := by rw [IntKind.wrap_i64]; omega
          have ix1 : (k : Int) + (m : Int) < (s.size : Int) := by omega
          have ix2 : (0 : Int) ≤ (k : Int) + (m : Int) := by omega
          have ix3 : k + m < s.size := by omega
          have heb : ((s[k + m].toNat : Int) == (sub[m].toNat : Int)) = false := by
            rw [beq_eq_false_iff_ne]
            intro h
            exact heq (UInt8.toNat_inj.1 (by omega))
          have hkne : k ≠ p := by
            rintro rfl
            exact heq (HO.out m hlt)
          have hkp2 : k + 1 ≤ p := by omega
          clear heq hkne
          go_wp2
          go_quiet (fail)
          go_wp2
          go_roundw
          case rel => exact ⟨k + 1, _, by go_num, by omega, hkp2, rfl⟩
          case measure => simp [intOf]; omega
      · have hm2 : m = sub.size := by omega
        subst hm2
        have hd : decide (((sub.size : Nat) : Int) < (sub.size : Int)) = false := by simp
        clear hm hlt
        go_wp2
        go_quiet (fail)
        go_wp2
        go_ret
        exact ⟨k, rfl, hfk, hkp, _, rfl⟩

end Go.Proofs.Qxb6605274a
