import Derived.Test.Qxb6605274aUp
import Derived.Test.Qxb6605274aShape
import Derived.Test.Qxb6605274aFill
namespace Go.Proofs.Qxb6605274a
open Go.RowKit

theorem fill_list (t s g : ByteArray) : (Pl.fill t s g).data.toList = t.data.toList ++ Pl.l1 ++ s.data.toList ++ Pl.l2 ++ t.data.toList ++ Pl.l3 ++ g.data.toList ++ Pl.l4 := by
  simp [Pl.fill, Pl.b1, Pl.b2, Pl.b3, Pl.b4]

/-- The template at its markers. -/
def sk : List UInt8 := [1] ++ Pl.l1 ++ [2] ++ Pl.l2 ++ [1] ++ Pl.l3 ++ [3] ++ Pl.l4

theorem sk_marks : marks sk = [1, 2, 1, 3] := by decide +kernel
theorem sk_shape : shp sk 0 = true := by decide +kernel

theorem fillL_plain (m1 m2 m3 : List UInt8) : ∀ l : List UInt8, l.all (fun c => decide (3 < c.toNat)) = true → fillL m1 m2 m3 l = l
  | [], _ => rfl
  | c :: l, h => by
    simp only [List.all_cons, Bool.and_eq_true, decide_eq_true_eq] at h
    have e : rep m1 m2 m3 c = [c] := by unfold rep; rw [if_neg (by omega), if_neg (by omega), if_neg (by omega)]
    have := fillL_plain m1 m2 m3 l h.2
    simp only [fillL, List.flatMap_cons] at this ⊢
    rw [e, this]; rfl

theorem fillL_append (m1 m2 m3 a b : List UInt8) : fillL m1 m2 m3 (a ++ b) = fillL m1 m2 m3 a ++ fillL m1 m2 m3 b := by simp [fillL]

theorem sk_fill (m1 m2 m3 : List UInt8) : fillL m1 m2 m3 sk = m1 ++ Pl.l1 ++ m2 ++ Pl.l2 ++ m1 ++ Pl.l3 ++ m3 ++ Pl.l4 := by
  have e1 : fillL m1 m2 m3 [1] = m1 := by simp [fillL, rep]
  have e2 : fillL m1 m2 m3 [2] = m2 := by simp [fillL, rep]
  have e3 : fillL m1 m2 m3 [3] = m3 := by simp [fillL, rep]
  unfold sk
  simp only [fillL_append, e1, e2, e3]
  rw [fillL_plain _ _ _ Pl.l1 (by decide +kernel), fillL_plain _ _ _ Pl.l2 (by decide +kernel), fillL_plain _ _ _ Pl.l3 (by decide +kernel), fillL_plain _ _ _ Pl.l4 (by decide +kernel)]

theorem bytes10_yes (t s g : ByteArray) (w : World) (hsum : t.size + s.size + g.size ≤ 1048576) :
    Calls Try.prog 10 #[.string t, .string s, .string g] w fun e w' => e = .returned (.bool true) ∧ w' = w := by
  go_enter Try.func10, Try.ntmps10
  go_wp2
  go_ret
  exact ⟨rfl, rfl⟩

theorem bytes10_no (t s g : ByteArray) (w : World) (ht : t.size ≤ maxLen) (hs : s.size ≤ maxLen) (hg : g.size ≤ maxLen) (hsum : 1048576 < t.size + s.size + g.size) :
    Calls Try.prog 10 #[.string t, .string s, .string g] w fun e w' => e = .returned (.bool false) ∧ w' = w := by
  unfold maxLen at ht hs hg
  go_enter Try.func10, Try.ntmps10
  go_wp2
  all_goals
    go_ret
    exact ⟨rfl, rfl⟩

set_option maxHeartbeats 400000 in
theorem splice_law (t s g : ByteArray) (w : World) (ht : t.size ≤ maxLen) (hs : s.size ≤ maxLen) (hg : g.size ≤ maxLen) :
    Calls Try.prog 4 #[.string t, .string s, .string g] w fun e w' => e = .returned (.bool true) ∧ Below w.heap.size w w' := by
  by_cases hsum : t.size + s.size + g.size ≤ 1048576
  · have h1 := bytes10_yes t s g w hsum
    obtain ⟨k, hk⟩ : ∃ r, Pl.fill ⟨#[1]⟩ ⟨#[2]⟩ ⟨#[3]⟩ = r := ⟨_, rfl⟩
    obtain ⟨r, hr⟩ : ∃ r, Pl.fill t s g = r := ⟨_, rfl⟩
    have kl : k.data.toList = sk := by rw [← hk, fill_list]; rfl
    have ks : k.size = 336 := by rw [← hk]; exact Pl.fill_size _ _ _
    have za : k.size ≤ 336 := by omega
    have zb : 336 ≤ k.size := by omega
    have u0 : Calls Try.prog 11 #[.string ⟨#[1]⟩, .string ⟨#[2]⟩, .string ⟨#[3]⟩] w fun e w' => e = .returned (.string k) ∧ w' = w := by
      rw [← hk]; exact zzUp_any _ _ _ w (by decide) (by decide) (by decide)
    have u1 : ∀ w1, Calls Try.prog 11 #[.string t, .string s, .string g] w1 fun e w' => e = .returned (.string r) ∧ w' = w1 := fun w1 => by
      rw [← hr]; exact zzUp_any t s g w1 (by omega) (by omega) (by omega)
    have m0 : Calls Try.prog 12 #[.string k] w fun e w' => e = .returned (.string ⟨#[1, 2, 1, 3]⟩) ∧ Below w.heap.size w w' := by
      have := markers_any k w (by omega)
      rw [kl, sk_marks] at this
      exact this
    have s0 : ∀ w1, Calls Try.prog 13 #[.string k, .int .u8 2] w1 fun e w' => e = .returned (.bool true) ∧ w' = w1 := fun w1 => shape_yes k w1 (by omega) (by rw [kl]; exact sk_shape)
    have f0 : ∀ w1, Calls Try.prog 14 #[.string k, .string t, .string s, .string g] w1 fun e w' => e = .returned (.string r) ∧ Below w1.heap.size w1 w' := fun w1 => by
      have := fill_any k t s g w1 (by omega) (by omega) (by omega) (by omega)
      rw [kl, sk_fill, ← fill_list, hr] at this
      exact this
    have l0 : 0 < k.size := by omega
    have k0 : k[0] = 1 := by
      have := congrArg (fun l => l[0]?) kl
      simp only [sk] at this
      have e : k.data.toList[0]? = some k[0] := by rw [List.getElem?_eq_getElem (by simpa using l0)]; rfl
      rw [e] at this
      simpa using this
    have lt : k.size - 1 < k.size := by omega
    have last : k[k.size - 1] = 41 := Pl.fill_last _ _ _ k hk _ lt (by omega)
    clear hk hr kl ks
    go_enter Try.func4, Try.ntmps4
    go_wp2_with fail
    refine h1.mono ?_
    rintro e w' ⟨rfl, hw⟩
    obtain rfl := hw.symm
    clear h1
    go_wp2_with fail
    refine u0.mono ?_
    rintro e w' ⟨rfl, hw⟩
    obtain rfl := hw.symm
    clear u0
    go_wp2_with fail
    refine m0.mono ?_
    rintro e w1 ⟨rfl, hb1⟩
    clear m0
    have HB : Hid (Below w.heap.size w w1) := hb1
    clear hb1
    go_wp2_with fail
    refine (s0 _).mono ?_
    rintro e w' ⟨rfl, hw⟩
    obtain rfl := hw.symm
    clear s0
    go_wp2_with fail
    refine (u1 _).mono ?_
    rintro e w' ⟨rfl, hw⟩
    obtain rfl := hw.symm
    clear u1
    go_wp2_with fail
    refine (f0 _).mono ?_
    rintro e w2 ⟨rfl, hb2⟩
    clear f0
    have HB2 : Hid (Below w.heap.size w w2) := HB.out.trans (hb2.mono HB.out.size)
    clear hb2
    go_wp2
    go_ret
    exact ⟨by simp, HB2.out⟩
  · go_enter Try.func4, Try.ntmps4
    go_wp2_with fail
    refine (bytes10_no t s g w ht hs hg (by omega)).mono ?_
    rintro e w' ⟨rfl, hw⟩
    obtain rfl := hw.symm
    go_wp2
    go_ret
    exact ⟨rfl, Below.refl _ _⟩

end Go.Proofs.Qxb6605274a
