import Derived.Test.Qxb6601056aExcl
import Derived.Test.Qxb6601056aAsc
import Derived.Test.Qxb6601056aClone
import Derived.Lib.Strings
namespace Go.Proofs.Qxb6601056a
open Go.RowKit Go.Deep

/-- ZZNewCalendar: a new block; the world behind it as far as the rest asks. -/
theorem new_any (a : Option Addr) (n c : Nat) (w : World) :
    Calls Try.prog 10 #[.slice a n c] w fun e w' => e = .returned (.pointer (some ⟨w.heap.size, 0, none⟩)) ∧ w'.cell? ⟨w.heap.size, 1, none⟩ = some (.slice a n c) ∧
      (∀ b o, b < w.heap.size → w'.cell? ⟨b, o, none⟩ = w.cell? ⟨b, o, none⟩) ∧ Below w.heap.size w w' := by
  refine (ZZNew_any _ a n c rfl w).mono ?_
  rintro e w' ⟨rfl, rfl⟩
  have hb : Below w.heap.size w (w.alloc (.cells #[.slice none 0 0, .slice a n c] 33)) := (Below.refl _ _).alloc (Nat.le_refl _) _
  exact ⟨rfl, by simp, fun b o h => hb.cell (p := ⟨b, o, none⟩) h, hb⟩

theorem toList_snoc (x : ByteArray) (d : UInt8) : (x ++ (⟨#[d]⟩ : ByteArray)).toList = x.toList ++ [d] := by
  rw [Lib.toList_data, Lib.toList_data]; simp

theorem toList_cut (x : ByteArray) (k : Nat) : (x.extract 0 k).toList = x.toList.take k := by
  rw [Lib.toList_data, Lib.toList_data, Lib.extract_data]; simp

/-- A text that goes on behind the last date. -/
theorem behind_facts (n : Nat) (S : Nat → ByteArray) (h0 : 0 < n) (hasc : ∀ j, j + 1 < n → Op.bytesLess (S j).toList (S (j + 1)).toList = true) (d : UInt8) :
    Op.bytesLess (S (n - 1) ++ (⟨#[d]⟩ : ByteArray)).toList (S 0).toList = false ∧
    (Op.bytesLess (S (n - 1) ++ (⟨#[d]⟩ : ByteArray)).toList (S (n - 1)).toList || (S (n - 1) ++ (⟨#[d]⟩ : ByteArray)).toList == (S (n - 1)).toList) = false := by
  rw [toList_snoc]
  have h1 : Op.bytesLess (S (n - 1)).toList ((S (n - 1)).toList ++ [d]) = true := Pl.bl_append _ _ _
  have h2 := Pl.bl_ne _ _ h1
  rw [beq_eq_false_iff_ne] at h2
  refine ⟨?_, ?_⟩
  · by_cases e : 0 = n - 1
    · rw [← e] at h1 ⊢; exact Pl.bl_asymm _ _ h1
    · exact Pl.bl_asymm _ _ (Pl.bl_trans _ _ _ (Pl.asc_lt n (fun j => (S j).toList) hasc 0 (n - 1) (by omega) (by omega)) h1)
  · rw [Pl.bl_asymm _ _ h1, Bool.false_or, beq_eq_false_iff_ne]
    exact fun e => h2 e.symm

set_option maxHeartbeats 400000 in
theorem law_some (b off n c : Nat) (S : Nat → ByteArray) (w : World) (h0 : 0 < n) (hnm : n ≤ maxLen) (hbw : b < w.heap.size) (hsm : ∀ j, j < n → (S j).size ≤ maxLen)
    (hc : ∀ j, j < n → w.cell? ⟨b, off + j, none⟩ = some (.string (S j))) :
    Calls Try.prog 4 #[.slice (some ⟨b, off, none⟩) n c] w fun e w' => e = .returned (.bool true) ∧ Below w.heap.size w w' := by
  have z1 := zzBytes_any b off n c S w hnm hsm hc
  unfold maxLen at hnm
  by_cases hbig : n ≤ 65536
  · have a1 := asc_any b off n c S w hbig hc
    have z2 := zzcalBytes_any b off n c S w hbig
    have cl : ∀ q, Calls Try.prog 9 #[.slice (some ⟨b, off, none⟩) n c] (w.drewN q) fun e w' => e = .returned (.slice (some ⟨w.heap.size, 0, none⟩) n n) ∧ w'.rowIs w.heap.size 9 n (fun j => .string (S j)) ∧ Below w.heap.size w w' := fun q =>
      (clone_any b off n c S (w.drewN q) hbig hbw hc).mono fun e w' ⟨h1, h2, h3⟩ => ⟨h1, h2, ⟨h3.os, h3.tape, h3.output, h3.size, h3.block⟩⟩
    clear hsm
    have HC : Hid (∀ j, j < n → w.cell? ⟨b, off + j, none⟩ = some (.string (S j))) := hc
    clear hc
    go_enter Try.func4, Try.ntmps4
    go_wp2_with fail
    refine z1.mono ?_
    rintro e w' ⟨B, rfl, hB, hw⟩
    obtain rfl := hw.symm
    clear z1
    cases B
    · go_wp2
      go_ret
      exact ⟨rfl, Below.refl _ _⟩
    · have HS : Hid (∀ j, j < n → (S j).size ≤ 1048576) := hB rfl
      clear hB
      go_wp2_with fail
      refine (z2 HS.out HC.out).mono ?_
      rintro e w' ⟨x, rfl, hw⟩
      obtain rfl := hw.symm
      clear z2
      go_wp2_with fail
      · go_wp2
        go_ret
        exact ⟨rfl, Below.refl _ _⟩
      · refine a1.mono ?_
        rintro e w' ⟨B, rfl, hB, q, rfl⟩
        clear a1
        cases B
        · go_wp2
          go_ret
          exact ⟨rfl, below_drewN (Below.refl _ _) _⟩
        · have HA : Hid (∀ j, j + 1 < n → Op.bytesLess (S j).toList (S (j + 1)).toList = true) := hB rfl
          clear hB
          go_wp2_with fail
          refine (cl q).mono ?_
          rintro e w1 ⟨rfl, hrow, hb1⟩
          clear cl
          go_wp2_with fail
          refine (new_any _ _ _ _).mono ?_
          rintro e W2 ⟨rfl, hcell, hkeep, hb2⟩
          have hlt1 := hrow.lt
          have HR : Hid (∀ j, j < n → W2.cell? ⟨w.heap.size, 0 + j, none⟩ = some (.string (S j))) := fun j hj => by
            rw [Nat.zero_add, hkeep _ _ hlt1]; exact hrow.cell hj
          have HB : Hid (Below w.heap.size w W2) := hb1.trans (hb2.mono (by omega))
          have own : ∀ k q, k < n → Calls Try.prog 11 #[.pointer (some ⟨w1.heap.size, 0, none⟩), .string (S k)] (W2.drewN q) fun e w' => e = .returned (.bool false) ∧ ∃ q', w' = W2.drewN q' := fun k q hk =>
            (excl_own w1.heap.size w.heap.size 0 n n k S (S k) (W2.drewN q) hk hbig rfl hcell HR.out HA.out).mono fun e w' ⟨h1, q', h2⟩ => ⟨h1, q + q', by rw [h2, World.drewN_drewN]⟩
          have beh : ∀ d q, Calls Try.prog 11 #[.pointer (some ⟨w1.heap.size, 0, none⟩), .string (S (n - 1) ++ (⟨#[d]⟩ : ByteArray))] (W2.drewN q) fun e w' => e = .returned (.bool false) ∧ ∃ q', w' = W2.drewN q' := fun d q =>
            (excl_behind w1.heap.size w.heap.size 0 n n _ (S 0) (S (n - 1)) (W2.drewN q) h0 hbig hcell (HR.out 0 h0) (HR.out (n - 1) (by omega)) (behind_facts n S h0 HA.out d).1 (behind_facts n S h0 HA.out d).2).mono fun e w' ⟨h1, q', h2⟩ => ⟨h1, q + q', by rw [h2, World.drewN_drewN]⟩
          have bef : ∀ x q, Op.bytesLess x.toList (S 0).toList = true → Calls Try.prog 11 #[.pointer (some ⟨w1.heap.size, 0, none⟩), .string x] (W2.drewN q) fun e w' => e = .returned (.bool false) ∧ ∃ q', w' = W2.drewN q' := fun x q hx =>
            (excl_before w1.heap.size w.heap.size 0 n n x (S 0) (W2.drewN q) h0 hcell (HR.out 0 h0) hx).mono fun e w' ⟨h1, q', h2⟩ => ⟨h1, q + q', by rw [h2, World.drewN_drewN]⟩
          clear hcell hkeep hrow hb1 hb2
          go_wp2_with fail
          go_loopw [4] (fun i wr => ∃ k q : Nat, k ≤ n ∧ i = .int .i64 k ∧ wr = W2.drewN q) (fun i _ => n - (intOf i).toNat)
          case atStart => exact ⟨0, 0, Nat.zero_le _, rfl, rfl⟩
          case round =>
            obtain ⟨k, q, hk, rfl, rfl⟩ := hrel
            by_cases hlt : k < n
            · have ck := HR.out k hlt
              rw [Nat.zero_add] at ck
              clear beh bef
              go_wp2_with fail
              refine (own k _ hlt).mono ?_
              rintro e w' ⟨rfl, q', rfl⟩
              clear own
              go_wp2
              go_roundw
              case rel => exact ⟨k + 1, _, by omega, by go_num, rfl⟩
              case measure => simp [intOf]; omega
            · clear own
              have cl := HR.out (n - 1) (by omega)
              have cf := HR.out 0 h0
              rw [Nat.zero_add] at cl cf
              obtain ⟨xl, hxl⟩ : ∃ x, S (n - 1) = x := ⟨_, rfl⟩
              obtain ⟨xf, hxf⟩ : ∃ x, S 0 = x := ⟨_, rfl⟩
              have szl := HS.out (n - 1) (by omega)
              have szf := HS.out 0 h0
              rw [hxl] at cl szl beh
              rw [hxf] at cf szf
              rw [hxf] at bef
              clear hxl hxf
              go_wp2_with fail
              refine (beh _ _).mono ?_
              rintro e w' ⟨rfl, q1, rfl⟩
              go_wp2_with fail
              refine (beh _ _).mono ?_
              rintro e w' ⟨rfl, q2, rfl⟩
              clear beh
              by_cases hne : 0 < xf.size
              · have hlen : xf.toList.length = xf.size := by rw [Lib.toList_data]; rfl
                have b1 := bef (xf.extract 0 (xf.size - 1)) (q := q2) (by rw [toList_cut]; exact Pl.bl_take _ _ (by omega))
                have b2 := fun q => bef ⟨#[]⟩ q (by rw [Lib.toList_data]; exact Pl.bl_nil _ (by omega))
                clear bef hlen
                go_wp2_with fail
                refine b1.mono ?_
                rintro e w' ⟨rfl, q3, rfl⟩
                go_wp2_with fail
                refine (b2 _).mono ?_
                rintro e w' ⟨rfl, q4, rfl⟩
                go_wp2
                go_ret
                exact ⟨rfl, below_drewN HB.out _⟩
              · go_wp2
                go_ret
                exact ⟨rfl, below_drewN HB.out _⟩
  · clear hsm hc
    go_enter Try.func4, Try.ntmps4
    go_wp2_with fail
    refine z1.mono ?_
    rintro e w' ⟨B, rfl, hB, hw⟩
    obtain rfl := hw.symm
    clear z1 hB
    cases B
    all_goals
      go_wp2
      go_ret
      exact ⟨rfl, Below.refl _ _⟩

/-- A slice of no element, the nil one among them. -/
theorem law_none (a : Option Addr) (c : Nat) (w : World) :
    Calls Try.prog 4 #[.slice a 0 c] w fun e w' => e = .returned (.bool true) ∧ Below w.heap.size w w' := by
  go_enter Try.func4, Try.ntmps4
  go_wp2_with fail
  refine (zzBytes_nil a c w True trivial).mono ?_
  rintro e w' ⟨B, rfl, _, hw⟩
  obtain rfl := hw.symm
  cases B
  · go_wp2
    go_ret
    exact ⟨rfl, Below.refl _ _⟩
  · go_wp2_with fail
    refine (zzcalBytes_nil a c w).mono ?_
    rintro e w' ⟨x, rfl, hw⟩
    obtain rfl := hw.symm
    go_wp2
    all_goals
      go_ret
      exact ⟨rfl, Below.refl _ _⟩

end Go.Proofs.Qxb6601056a
