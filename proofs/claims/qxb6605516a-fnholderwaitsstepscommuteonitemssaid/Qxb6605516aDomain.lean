import Derived.Test.Qxb6605516aBase
namespace Go.Proofs.Qxb6605516a
open Go.RowKit Go.Deep
open Pl (I3 E2)

/-- What stepDomain asks of the list at place a. -/
def GoodL (n : Nat) (ln : Nat) (E : Nat → E2) : Prop := ∀ j, j < ln → 0 ≤ (E j).1 ∧ (E j).1 < (n : Int) ∧ (E j).2 ≠ 0
/-- What stepDomain asks. -/
def Dom (n nl nn : Nat) (LO : Nat → Int) (ln : Nat → Nat) (E : Nat → Nat → E2) (t : Int) : Prop :=
  0 ≤ t ∧ t < (nn : Int) ∧ (0 ≤ LO t.toNat → LO t.toNat < (nl : Int) ∧ GoodL n (ln (LO t.toNat).toNat) (E (LO t.toNat).toNat))

set_option maxHeartbeats 1000000 in
set_option maxRecDepth 100000 in
theorem domain_any (ai al an : Option Addr) (n ci nl cl nn cn : Nat) (t : Int) (A : Nat → Option Addr) (ln cp : Nat → Nat) (E : Nat → Nat → E2) (LO : Nat → Int) (w : World)
    (_hn : n ≤ 65536) (hnl : nl ≤ 65536) (hnn : nn ≤ 65536) (hln : ∀ j, j < nl → ln j ≤ 131072) (ht : -2147483648 ≤ t ∧ t ≤ 2147483647)
    (hLO : ∀ j, j < nn → -2147483648 ≤ LO j ∧ LO j ≤ 2147483647) (hE : ∀ a j, a < nl → j < ln a → -2147483648 ≤ (E a j).1 ∧ (E a j).1 ≤ 2147483647)
    (hvl : ViewL w al nl A ln cp E) (hvn : ViewN w an nn LO) :
    Calls Try.prog 22 #[.slice ai n ci, .slice al nl cl, .slice an nn cn, .int .i32 t] w fun e w' => RetB e (Dom n nl nn LO ln E t) (w' = w) := by
  by_cases h0 : t < 0
  · go_enter Try.func22, Try.ntmps22
    go_wp2
    go_ret
    exact ⟨false, rfl, fun h => absurd h (by decide), rfl⟩
  obtain ⟨tn, rfl⟩ := Int.eq_ofNat_of_zero_le (show 0 ≤ t by omega)
  by_cases h1 : tn < nn
  · rcases hvn with rfl | ⟨b, off, rfl, _, hc⟩
    · exact absurd h1 (Nat.not_lt_zero _)
    have ck := hc tn h1
    have hr := hLO tn h1
    clear hc hLO
    by_cases h2 : LO tn < 0
    · obtain ⟨v, hv⟩ : ∃ v, LO tn = v := ⟨_, rfl⟩
      have HD : Hid (Dom n nl nn LO ln E (tn : Int)) := ⟨by omega, by omega, fun h => by simp only [Int.toNat_natCast] at h; omega⟩
      rw [hv] at ck h2 hr
      clear hv hvl hE hln
      go_enter Try.func22, Try.ntmps22
      go_wp2
      go_ret
      exact ⟨true, rfl, fun _ => HD.out, rfl⟩
    · obtain ⟨a, ha⟩ := Int.eq_ofNat_of_zero_le (show 0 ≤ LO tn by omega)
      rw [ha] at ck hr
      by_cases h3 : a < nl
      · rcases hvl with rfl | ⟨b2, off2, rfl, _, hc2⟩
        · exact absurd h3 (Nat.not_lt_zero _)
        obtain ⟨cl2, hve⟩ := hc2 a h3
        have hl := hln a h3
        have hEa := hE a
        clear hc2 hln hE
        have mk : GoodL n (ln a) (E a) → Hid (Dom n nl nn LO ln E (tn : Int)) := fun hg => ⟨by omega, by omega, fun _ => by simp only [Int.toNat_natCast, ha]; exact ⟨by omega, hg⟩⟩
        have HM : Hid (GoodL n (ln a) (E a) → Hid (Dom n nl nn LO ln E (tn : Int))) := mk
        clear mk h2 ha
        obtain ⟨Ea, hEe⟩ : ∃ Ea, E a = Ea := ⟨_, rfl⟩
        rw [hEe] at HM hve hEa
        obtain ⟨la, hla⟩ : ∃ la, ln a = la := ⟨_, rfl⟩
        rw [hla] at HM hve cl2 hl hEa
        clear hla hEe
        rcases hve with rfl | ⟨b3, off3, hA, _, hc3⟩
        · go_enter Try.func22, Try.ntmps22
          go_wp2
          go_loop [11] (fun i => i = .int .i64 0) (fun _ => 0)
          case atStart => rfl
          case round =>
            obtain rfl := hrel
            go_wp2
            go_ret
            exact ⟨true, rfl, fun _ => (HM.out (fun j hj => absurd hj (Nat.not_lt_zero _))).out, rfl⟩
        · rw [hA] at cl2
          clear hA
          go_enter Try.func22, Try.ntmps22
          go_wp2
          go_loop [11] (fun i => ∃ k : Nat, k ≤ la ∧ i = .int .i64 k ∧ Hid (GoodL n k Ea)) (fun i => la - (intOf i).toNat)
          case atStart => exact ⟨0, Nat.zero_le _, rfl, fun j hj => absurd hj (Nat.not_lt_zero _)⟩
          case round =>
            obtain ⟨k, hk, rfl, HG⟩ := hrel
            by_cases hlt : k < la
            · obtain ⟨e0, e1⟩ := hc3 k hlt
              have hx := hEa k h3 hlt
              obtain ⟨x, hxe⟩ : ∃ x, (Ea k).1 = x := ⟨_, rfl⟩
              obtain ⟨y, hye⟩ : ∃ y, (Ea k).2 = y := ⟨_, rfl⟩
              rw [hxe] at e0 hx
              rw [hye] at e1
              have HX : Hid ((Ea k).1 = x) := hxe
              have HY : Hid ((Ea k).2 = y) := hye
              clear hxe hye hc3 hEa
              go_wp2
              · go_ret
                exact ⟨false, rfl, fun h => absurd h (by decide), rfl⟩
              · have hall : (0 ≤ x ∧ x < (n : Int)) ∧ (y == 0) = false := by assumption
                have hy0 : y ≠ 0 := by simpa using hall.2
                go_round
                case rel =>
                  refine ⟨k + 1, by omega, by go_num, ?_⟩
                  intro j hj
                  by_cases e : j = k
                  · subst e; rw [HX.out, HY.out]; exact ⟨hall.1.1, hall.1.2, hy0⟩
                  · exact HG.out j (by omega)
                case measure => simp [intOf]; omega
              · go_ret
                exact ⟨false, rfl, fun h => absurd h (by decide), rfl⟩
              · go_ret
                exact ⟨false, rfl, fun h => absurd h (by decide), rfl⟩
            · clear hc3 hEa
              go_wp2
              go_ret
              refine ⟨true, rfl, fun _ => (HM.out ?_).out, rfl⟩
              intro j hj
              exact HG.out j (by omega)
      · clear hvl hE hln h2
        go_enter Try.func22, Try.ntmps22
        go_wp2
        go_ret
        exact ⟨false, rfl, fun h => absurd h (by decide), rfl⟩
  · clear hvl hvn hE hln hLO
    go_enter Try.func22, Try.ntmps22
    go_wp2
    go_ret
    exact ⟨false, rfl, fun h => absurd h (by decide), rfl⟩

end Go.Proofs.Qxb6605516a
