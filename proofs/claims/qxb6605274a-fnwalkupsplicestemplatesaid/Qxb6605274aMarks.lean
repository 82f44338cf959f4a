import Derived.Test.Qxb6605274aRows
import Derived.WalkKit
import Derived.WalkSpells
import Derived.WalkLawsBesides
import Derived.Lib.AppendStr
import Derived.Lib.Strings
namespace Go.Proofs.Qxb6605274a
open Go.RowKit

theorem info5 : (Try.prog.info? 5).map (fun i => (i.zero, i.size, i.bytes)) = some (some (.int .u8 0), 1, 1) := by kernel_rfl

/-- A byte as a cell. -/
def cellOf (b : UInt8) : Value := .int .u8 b.toNat

theorem take_snoc (s : ByteArray) (k : Nat) (h : k < s.size) : s.data.toList.take (k + 1) = s.data.toList.take k ++ [s[k]] := by
  rw [List.take_succ_eq_append_getElem (by simpa using h)]; rfl

/-- The bytes 1, 2, 3 of a text. -/
def marks (l : List UInt8) : List UInt8 := l.filter fun c => 1 ≤ c && c ≤ 3

theorem marks_le (l : List UInt8) : (marks l).length ≤ l.length := List.length_filter_le _ _
theorem marks_hit (l : List UInt8) (c : UInt8) (h1 : 1 ≤ (c.toNat : Int)) (h2 : (c.toNat : Int) ≤ 3) : marks (l ++ [c]) = marks l ++ [c] := by
  have e : (1 ≤ c && c ≤ 3) = true := by simp [UInt8.le_iff_toNat_le]; omega
  simp [marks, List.filter_append, e]
theorem marks_miss (l : List UInt8) (c : UInt8) (h : ¬ (1 ≤ (c.toNat : Int) ∧ (c.toNat : Int) ≤ 3)) : marks (l ++ [c]) = marks l := by
  have e : (1 ≤ c && c ≤ 3) = false := by
    rw [Bool.eq_false_iff]; intro hh; apply h; simp [UInt8.le_iff_toNat_le] at hh; omega
  simp [marks, List.filter_append, e]

/-- What the loop holds: the value owns the bytes xs; nothing old has turned. -/
def Holds (w wr : World) (v : Value) (xs : List UInt8) : Prop := wr.ownsRow w.heap.size 5 1 v xs.length (xs.map cellOf) ∧ Below w.heap.size w wr

theorem holds_start (w : World) : Holds w (w.alloc (.cells #[] 5)) (.slice (some ⟨w.heap.size, 0, none⟩) 0 0) [] :=
  ⟨World.ownsRow_lit w #[] 0 (Nat.le_refl _) (Nat.zero_le _) rfl, (Below.refl _ _).alloc (Nat.le_refl _) _⟩

theorem ownBlock_ge {wr : World} {v : Value} {n : Nat} {xs : List Value} {B : Nat} {e : TypeId} (h : wr.ownsRow B e 1 v n xs) : ∀ k, v.ownBlock = some k → B ≤ k := by
  intro k hk
  rcases h.2 with ⟨rfl, _⟩ | ⟨g, cap, cur, rfl, hb, _⟩
  · simp [Value.ownBlock] at hk
  · simp [Value.ownBlock] at hk; omega

theorem ret_string {a b : ByteArray} (h : a = b) : Ending.returned (.string a) = .returned (.string b) := by rw [h]

/-- 'string(out)' of what the loop holds. -/
theorem holds_string {w wr : World} {v : Value} {xs : List UInt8} (h : Holds w wr v xs) : (convert 33 9 v).run Try.prog wr = .ok (.string ⟨xs.toArray⟩) wr := by
  obtain ⟨ho, _⟩ := h
  rcases ho.2 with ⟨rfl, h0⟩ | ⟨g, cap, cur, rfl, hb, hh, _⟩
  · have : xs = [] := List.eq_nil_of_length_eq_zero h0
    subst this
    exact run_convert_bytes_nil wr 33 5 Try.underlying33 Try.underlying5 0 0 9 Try.underlying9
  · refine run_convert_bytes_back wr 33 9 5 ⟨g, 0, none⟩ cap xs Try.underlying33 Try.underlying5 Try.underlying9 fun j hj => ?_
    have := ho.cells (g := g) rfl j (cellOf xs[j]) (by simp [hj])
    exact this

/-- An append: what is held behind it. -/
theorem holds_append {w wr w1 : World} {v v' : Value} {xs : List UInt8} {o : Obj} (ys : List UInt8) (h : Holds w wr v xs) (n : Nat) (hn : n = (xs ++ ys).length)
    (hown : w1.ownsRow w.heap.size 5 1 v' n (xs.map cellOf ++ ys.map cellOf)) (hg : (wr.alloc o).grownBy w1 v.ownBlock) : Holds w w1 v' (xs ++ ys) := by
  subst hn
  refine ⟨by rw [List.map_append]; exact hown, (h.2.alloc h.2.size o).grown hg ?_ (ownBlock_ge h.1)⟩
  have := h.2.size
  simp
  omega

theorem holds_append' {w wr w1 : World} {v v' : Value} {xs : List UInt8} (ys : List UInt8) (h : Holds w wr v xs) (n : Nat) (hn : n = (xs ++ ys).length)
    (hown : w1.ownsRow w.heap.size 5 1 v' n (xs.map cellOf ++ ys.map cellOf)) (hg : wr.grownBy w1 v.ownBlock) : Holds w w1 v' (xs ++ ys) := by
  subst hn
  exact ⟨by rw [List.map_append]; exact hown, h.2.grown hg h.2.size (ownBlock_ge h.1)⟩

set_option maxHeartbeats 400000 in
theorem markers_any (s : ByteArray) (w : World) (hs : s.size ≤ 16777216) :
    Calls Try.prog 12 #[.string s] w fun e w' => e = .returned (.string ⟨(marks s.data.toList).toArray⟩) ∧ Below w.heap.size w w' := by
  obtain ⟨i0, hi, hz0, hz1, hz2⟩ := info_parts info5
  have hst := holds_start w
  go_enter Try.func12, Try.ntmps12
  go_wp2
  go_loopw [3, 4] (fun v i wr => ∃ (k : Nat) (xs : List UInt8), k ≤ s.size ∧ i = .int .i64 k ∧ Holds w wr v xs ∧ Hid (xs = marks (s.data.toList.take k))) (fun _ i _ => s.size - (intOf i).toNat)
  case atStart => exact ⟨0, [], Nat.zero_le _, rfl, hst, rfl⟩
  case round =>
    obtain ⟨k, xs, hk, rfl, hh, HX⟩ := hrel
    have hxl : xs.length ≤ s.size := by rw [HX.out]; exact Nat.le_trans (marks_le _) (by simp; omega)
    have hsz := hh.2.size
    by_cases hlt : k < s.size
    · have HT : Hid (s.data.toList.take (k + 1) = s.data.toList.take k ++ [s[k]]) := take_snoc s k hlt
      clear hst
      go_wp2_with (at_builtin; refine wpList_append_own _ rfl _ _ 33 rfl w.heap.size 5 i0 (.int .u8 0) 1 1 Try.underlying33 hi hz0 hz1 hz2 rfl (by decide) _ _ _ rfl (hh.1.alloc _) ⟨wr.heap.size, 0, none⟩ 1 1 [cellOf s[k]] rfl rfl ?c1 ?c2 ?c3 ?c4 ?c5 ?_)
      case c1 => exact cell_one_new _ _ _
      case c2 => intro u hu; simp at hu; subst hu; rfl
      case c3 => unfold maxLen; omega
      case c4 => omega
      case c5 => simp; omega
      · intro v' w1 hown' hgrow _
        have h1 : (1 : Int) ≤ (s[k].toNat : Int) := by omega
        have h2 : (s[k].toNat : Int) ≤ 3 := by omega
        have R := holds_append [s[k]] hh _ (by simp) hown' hgrow
        have HM := marks_hit (s.data.toList.take k) s[k] h1 h2
        rw [← HT.out, ← HX.out] at HM
        have HM' : Hid (marks (s.data.toList.take (k + 1)) = xs ++ [s[k]]) := HM
        clear HM hown' hgrow hh
        go_wp2
        go_roundw
        case rel => exact ⟨k + 1, xs ++ [s[k]], by omega, by go_num, R, HM'.out.symm⟩
        case measure => simp [intOf]; omega
      all_goals
        have HM : Hid (xs = marks (s.data.toList.take (k + 1))) := by
          show xs = _
          rw [HT.out, marks_miss _ _ (by omega)]; exact HX.out
        go_roundw
        case rel => exact ⟨k + 1, xs, by omega, by go_num, hh, HM⟩
        case measure => simp [intOf]; omega
    · clear hst
      have hcv := holds_string hh
      go_wp2
      go_ret
      refine ⟨ret_string ?_, hh.2⟩
      rw [HX.out, List.take_of_length_le (by simp; omega)]

end Go.Proofs.Qxb6605274a
