import Derived.Test.Qxb6605274aMarks
namespace Go.Proofs.Qxb6605274a
open Go.RowKit

/-- What zzShapeOK asks of a text from depth 'dep' on (the deep markers: 2 and 3). -/
def shp : List UInt8 → Int → Bool
  | [], dep => dep == 0
  | c :: l, dep =>
    if c = 39 ∨ c = 34 then false else if c = 40 then shp l (dep + 1) else if c = 41 then (if dep < 1 then false else shp l (dep - 1))
    else if 2 ≤ c.toNat ∧ c.toNat ≤ 3 ∧ dep < 1 then false else shp l dep

theorem shp_cons (c : UInt8) (l : List UInt8) (dep : Int) (h : shp (c :: l) dep = true) :
    c.toNat ≠ 39 ∧ c.toNat ≠ 34 ∧ ((c.toNat = 40 ∧ shp l (dep + 1) = true) ∨ (c.toNat = 41 ∧ 1 ≤ dep ∧ shp l (dep - 1) = true) ∨ (c.toNat ≠ 40 ∧ c.toNat ≠ 41 ∧ ¬ (2 ≤ c.toNat ∧ c.toNat ≤ 3 ∧ dep < 1) ∧ shp l dep = true)) := by
  have inj : ∀ d : UInt8, c = d ↔ c.toNat = d.toNat := fun d => UInt8.toNat_inj.symm
  unfold shp at h
  simp only [inj] at h
  by_cases h1 : c.toNat = UInt8.toNat 39 ∨ c.toNat = UInt8.toNat 34
  · rw [if_pos h1] at h; exact absurd h (by simp)
  rw [if_neg h1] at h
  have a1 : c.toNat ≠ 39 := fun e => h1 (.inl e)
  have a2 : c.toNat ≠ 34 := fun e => h1 (.inr e)
  refine ⟨a1, a2, ?_⟩
  by_cases h2 : c.toNat = UInt8.toNat 40
  · rw [if_pos h2] at h; exact .inl ⟨h2, h⟩
  rw [if_neg h2] at h
  by_cases h3 : c.toNat = UInt8.toNat 41
  · rw [if_pos h3] at h
    by_cases h4 : dep < 1
    · rw [if_pos h4] at h; exact absurd h (by simp)
    · rw [if_neg h4] at h; exact .inr (.inl ⟨h3, by omega, h⟩)
  rw [if_neg h3] at h
  by_cases h4 : 2 ≤ c.toNat ∧ c.toNat ≤ 3 ∧ dep < 1
  · rw [if_pos h4] at h; exact absurd h (by simp)
  · rw [if_neg h4] at h; exact .inr (.inr ⟨h2, h3, h4, h⟩)

theorem drop_at (s : ByteArray) (k : Nat) (h : k < s.size) : s.data.toList.drop k = s[k] :: s.data.toList.drop (k + 1) := by
  rw [List.drop_eq_getElem_cons (by simpa using h)]; rfl

set_option maxHeartbeats 400000 in
theorem shape_yes (s : ByteArray) (w : World) (hs : s.size ≤ 16777216) (hok : shp s.data.toList 0 = true) :
    Calls Try.prog 13 #[.string s, .int .u8 2] w fun e w' => e = .returned (.bool true) ∧ w' = w := by
  have HO : Hid (shp s.data.toList 0 = true) := hok
  clear hok
  go_enter Try.func13, Try.ntmps13
  go_wp2
  go_loop [5, 6] (fun d i => ∃ (k : Nat) (dep : Int), k ≤ s.size ∧ i = .int .i64 k ∧ d = .int .i64 dep ∧ 0 ≤ dep ∧ dep ≤ k ∧ Hid (shp (s.data.toList.drop k) dep = true)) (fun _ i => s.size - (intOf i).toNat)
  case atStart => exact ⟨0, 0, Nat.zero_le _, rfl, rfl, Int.le_refl _, Int.le_refl _, HO⟩
  case round =>
    obtain ⟨k, dep, hk, rfl, rfl, hd0, hdk, HS⟩ := hrel
    by_cases hlt : k < s.size
    · have hcons := HS.out
      rw [drop_at s k hlt] at hcons
      obtain ⟨c, hc⟩ : ∃ c, s[k] = c := ⟨_, rfl⟩
      rw [hc] at hcons
      obtain ⟨q1, q2, hcase⟩ := shp_cons _ _ _ hcons
      clear hcons HS HO
      have hcl : c.toNat < 256 := UInt8.toNat_lt c
      rcases hcase with ⟨hv, hn⟩ | ⟨hv, hd1, hn⟩ | ⟨hv1, hv2, hg, hn⟩
      · have HN : Hid (shp (s.data.toList.drop (k + 1)) (dep + 1) = true) := hn
        clear hn q1 q2
        go_wp2
        go_round
        case rel => exact ⟨k + 1, dep + 1, by omega, by go_num, by go_num, by omega, by omega, HN⟩
        case measure => simp [intOf]; omega
      · have HN : Hid (shp (s.data.toList.drop (k + 1)) (dep - 1) = true) := hn
        clear hn q1 q2
        go_wp2
        go_round
        case rel => exact ⟨k + 1, dep - 1, by omega, by go_num, by go_num, by omega, by omega, HN⟩
        case measure => simp [intOf]; omega
      · have HN : Hid (shp (s.data.toList.drop (k + 1)) dep = true) := hn
        have HG : Hid (¬ (2 ≤ c.toNat ∧ c.toNat ≤ 3 ∧ dep < 1)) := hg
        have b1 : ((c.toNat : Int) == 39) = false := by simp; omega
        have b2 : ((c.toNat : Int) == 34) = false := by simp; omega
        have b3 : ((c.toNat : Int) == 40) = false := by simp; omega
        have b4 : ((c.toNat : Int) == 41) = false := by simp; omega
        clear hn q1 q2 hg hv1 hv2
        go_wp2
        · exact absurd (show 2 ≤ c.toNat ∧ c.toNat ≤ 3 ∧ dep < 1 from ⟨by omega, by omega, by omega⟩) HG.out
        all_goals
          go_round
          case rel => exact ⟨k + 1, dep, by omega, by go_num, rfl, by omega, by omega, HN⟩
          case measure => simp [intOf]; omega
    · have hz : dep = 0 := by
        have := HS.out
        rw [List.drop_eq_nil_of_le (by simp; omega)] at this
        simpa [shp] using this
      subst hz
      go_wp2
      go_ret
      exact ⟨by simp, rfl⟩

end Go.Proofs.Qxb6605274a
