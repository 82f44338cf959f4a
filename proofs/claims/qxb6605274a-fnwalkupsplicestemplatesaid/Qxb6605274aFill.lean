import Derived.Test.Qxb6605274aMarks
namespace Go.Proofs.Qxb6605274a
open Go.RowKit

/-- What zzFill puts for a byte. -/
def rep (m1 m2 m3 : List UInt8) (c : UInt8) : List UInt8 := if c.toNat = 1 then m1 else if c.toNat = 2 then m2 else if c.toNat = 3 then m3 else [c]

def fillL (m1 m2 m3 l : List UInt8) : List UInt8 := l.flatMap (rep m1 m2 m3)

theorem fillL_snoc (m1 m2 m3 l : List UInt8) (c : UInt8) : fillL m1 m2 m3 (l ++ [c]) = fillL m1 m2 m3 l ++ rep m1 m2 m3 c := by simp [fillL]

theorem rep_le (m1 m2 m3 : List UInt8) (c : UInt8) (h1 : m1.length ≤ 1048576) (h2 : m2.length ≤ 1048576) (h3 : m3.length ≤ 1048576) : (rep m1 m2 m3 c).length ≤ 1048576 := by
  unfold rep
  split
  · exact h1
  split
  · exact h2
  split
  · exact h3
  · simp

theorem fillL_le (m1 m2 m3 : List UInt8) (h1 : m1.length ≤ 1048576) (h2 : m2.length ≤ 1048576) (h3 : m3.length ≤ 1048576) : ∀ l : List UInt8, (fillL m1 m2 m3 l).length ≤ l.length * 1048576
  | [] => by simp [fillL]
  | c :: l => by
    have a := fillL_le m1 m2 m3 h1 h2 h3 l
    have b := rep_le m1 m2 m3 c h1 h2 h3
    simp only [fillL, List.flatMap_cons, List.length_append, List.length_cons] at a ⊢
    omega

theorem strCells_eq (s : ByteArray) : Lib.strCells s = s.data.toList.map cellOf := rfl

set_option maxHeartbeats 1000000 in
theorem fill_any (s m1 m2 m3 : ByteArray) (w : World) (hs : s.size ≤ 65536) (h1 : m1.size ≤ 1048576) (h2 : m2.size ≤ 1048576) (h3 : m3.size ≤ 1048576) :
    Calls Try.prog 14 #[.string s, .string m1, .string m2, .string m3] w fun e w' =>
      e = .returned (.string ⟨(fillL m1.data.toList m2.data.toList m3.data.toList s.data.toList).toArray⟩) ∧ Below w.heap.size w w' := by
  obtain ⟨i0, hi, hz0, hz1, hz2⟩ := info_parts info5
  have hst := holds_start w
  go_enter Try.func14, Try.ntmps14
  go_wp2
  go_loopw [9, 10] (fun v i wr => ∃ (k : Nat) (xs : List UInt8), k ≤ s.size ∧ i = .int .i64 k ∧ Holds w wr v xs ∧ Hid (xs = fillL m1.data.toList m2.data.toList m3.data.toList (s.data.toList.take k))) (fun _ i _ => s.size - (intOf i).toNat)
  case atStart => exact ⟨0, [], Nat.zero_le _, rfl, hst, rfl⟩
  case round =>
    obtain ⟨k, xs, hk, rfl, hh, HX⟩ := hrel
    have hxl : xs.length ≤ 68719476736 := by
      rw [HX.out]
      refine Nat.le_trans (fillL_le _ _ _ (by simpa using h1) (by simpa using h2) (by simpa using h3) _) ?_
      rw [List.length_take]
      have : min k s.data.toList.length ≤ 65536 := by omega
      omega
    have hsz := hh.2.size
    clear hst
    by_cases hlt : k < s.size
    · have HT := take_snoc s k hlt
      obtain ⟨c, hc⟩ : ∃ c, s[k] = c := ⟨_, rfl⟩
      rw [hc] at HT
      have HF := fillL_snoc m1.data.toList m2.data.toList m3.data.toList (s.data.toList.take k) c
      rw [← HT, ← HX.out] at HF
      have HF' : Hid (fillL m1.data.toList m2.data.toList m3.data.toList (s.data.toList.take (k + 1)) = xs ++ rep m1.data.toList m2.data.toList m3.data.toList c) := HF
      clear HF HT
      have hcl : c.toNat < 256 := UInt8.toNat_lt c
      by_cases e1 : c.toNat = 1
      · have hrep : rep m1.data.toList m2.data.toList m3.data.toList c = m1.data.toList := by simp [rep, e1]
        rw [hrep] at HF'
        clear hrep
        go_wp2_with (at_builtin; refine Lib.wpList_append_own_string _ rfl _ _ 33 9 rfl w.heap.size 5 i0 Try.underlying33 Try.underlying9 hi hz0 hz1 hz2 _ _ _ rfl hh.1 m1 rfl ?c3 ?c4 ?c5 ?_)
        case c3 => unfold maxLen; omega
        case c4 => omega
        case c5 => omega
        intro v' w1 hown' hgrow _
        have R := holds_append' m1.data.toList hh _ (by simp) hown' hgrow
        clear hown' hgrow hh
        go_wp2
        go_roundw
        case rel => exact ⟨k + 1, _, by omega, by go_num, R, HF'.out.symm⟩
        case measure => simp [intOf]; omega
      · by_cases e2 : c.toNat = 2
        · have hrep : rep m1.data.toList m2.data.toList m3.data.toList c = m2.data.toList := by simp [rep, e2]
          rw [hrep] at HF'
          clear hrep
          have n1 : ((c.toNat : Int) == 1) = false := by simp; omega
          clear e1
          go_wp2_with (at_builtin; refine Lib.wpList_append_own_string _ rfl _ _ 33 9 rfl w.heap.size 5 i0 Try.underlying33 Try.underlying9 hi hz0 hz1 hz2 _ _ _ rfl hh.1 m2 rfl ?c3 ?c4 ?c5 ?_)
          case c3 => unfold maxLen; omega
          case c4 => omega
          case c5 => omega
          intro v' w1 hown' hgrow _
          have R := holds_append' m2.data.toList hh _ (by simp) hown' hgrow
          clear hown' hgrow hh
          go_wp2
          go_roundw
          case rel => exact ⟨k + 1, _, by omega, by go_num, R, HF'.out.symm⟩
          case measure => simp [intOf]; omega
        · by_cases e3 : c.toNat = 3
          · have hrep : rep m1.data.toList m2.data.toList m3.data.toList c = m3.data.toList := by simp [rep, e3]
            rw [hrep] at HF'
            clear hrep
            have n1 : ((c.toNat : Int) == 1) = false := by simp; omega
            have n2 : ((c.toNat : Int) == 2) = false := by simp; omega
            clear e1 e2
            go_wp2_with (at_builtin; refine Lib.wpList_append_own_string _ rfl _ _ 33 9 rfl w.heap.size 5 i0 Try.underlying33 Try.underlying9 hi hz0 hz1 hz2 _ _ _ rfl hh.1 m3 rfl ?c3 ?c4 ?c5 ?_)
            case c3 => unfold maxLen; omega
            case c4 => omega
            case c5 => omega
            intro v' w1 hown' hgrow _
            have R := holds_append' m3.data.toList hh _ (by simp) hown' hgrow
            clear hown' hgrow hh
            go_wp2
            go_roundw
            case rel => exact ⟨k + 1, _, by omega, by go_num, R, HF'.out.symm⟩
            case measure => simp [intOf]; omega
          · have hrep : rep m1.data.toList m2.data.toList m3.data.toList c = [c] := by simp [rep, e1, e2, e3]
            rw [hrep] at HF'
            clear hrep
            have n1 : ((c.toNat : Int) == 1) = false := by simp; omega
            have n2 : ((c.toNat : Int) == 2) = false := by simp; omega
            have n3 : ((c.toNat : Int) == 3) = false := by simp; omega
            clear e1 e2 e3
            go_wp2_with (at_builtin; refine wpList_append_own _ rfl _ _ 33 rfl w.heap.size 5 i0 (.int .u8 0) 1 1 Try.underlying33 hi hz0 hz1 hz2 rfl (by decide) _ _ _ rfl (hh.1.alloc _) ⟨wr.heap.size, 0, none⟩ 1 1 [cellOf c] rfl rfl ?c1 ?c2 ?c3 ?c4 ?c5 ?_)
            case c1 => exact cell_one_new _ _ _
            case c2 => intro u hu; simp at hu; subst hu; rfl
            case c3 => unfold maxLen; omega
            case c4 => omega
            case c5 => simp; omega
            intro v' w1 hown' hgrow _
            have R := holds_append [c] hh _ (by simp) hown' hgrow
            clear hown' hgrow hh
            go_wp2
            go_roundw
            case rel => exact ⟨k + 1, _, by omega, by go_num, R, HF'.out.symm⟩
            case measure => simp [intOf]; omega
    · have hcv := holds_string hh
      go_wp2
      go_ret
      refine ⟨ret_string ?_, hh.2⟩
      rw [HX.out, List.take_of_length_le (by simp; omega)]

end Go.Proofs.Qxb6605274a
