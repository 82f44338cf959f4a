import Derived.Test.Qxb6605516aJoin
namespace Go.Proofs.Qxb6605516a
open Go.RowKit Go.Deep
open Pl (I3 E2 Ls upd upd_same upd_other hstep cntAt closed)

/-- What is known of the arguments. -/
structure Given (w : World) (ai al an : Option Addr) (n ci nl cl nn cn : Nat) (it : Nat → I3) (A : Nat → Option Addr) (ln cp : Nat → Nat) (E : Nat → Nat → E2) (LO : Nat → Int) : Prop where
  hi : ViewI w ai n it
  hl : ViewL w al nl A ln cp E
  ho : ViewN w an nn LO
  nili : ai = none → n = 0 ∧ ci = 0
  nill : al = none → nl = 0 ∧ cl = 0
  bi : n ≤ maxLen
  bl : nl ≤ maxLen
  bo : nn ≤ maxLen
  be : ∀ j, j < nl → ln j ≤ maxLen
  ri : ∀ x, x < n → -2147483648 ≤ (it x).2.2 ∧ (it x).2.2 ≤ 2147483647 ∧ -2147483648 ≤ (it x).2.1 ∧ (it x).2.1 ≤ 2147483647
  ro : ∀ j, j < nn → -2147483648 ≤ LO j ∧ LO j ≤ 2147483647
  re : ∀ a j, a < nl → j < ln a → -2147483648 ≤ (E a j).1 ∧ (E a j).1 ≤ 2147483647

set_option maxHeartbeats 4000000 in
set_option maxRecDepth 100000 in
theorem law_any (ai al an : Option Addr) (n ci nl cl nn cn : Nat) (it : Nat → I3) (A : Nat → Option Addr) (ln cp : Nat → Nat) (E : Nat → Nat → E2) (LO : Nat → Int) (t1 d1 t2 d2 : Int) (w : World)
    (G : Given w ai al an n ci nl cl nn cn it A ln cp E LO) (ht1 : -2147483648 ≤ t1 ∧ t1 ≤ 2147483647) (ht2 : -2147483648 ≤ t2 ∧ t2 ≤ 2147483647) (hd1 : -2147483648 ≤ d1 ∧ d1 ≤ 2147483647) (hd2 : -2147483648 ≤ d2 ∧ d2 ≤ 2147483647) :
    Calls Try.prog 6 #[.slice ai n ci, .slice al nl cl, .slice an nn cn, .int .i32 t1, .int .i32 d1, .int .i32 t2, .int .i32 d2] w fun e w' => e = .returned (.bool true) ∧ Below w.heap.size w w' := by
  have z1 := zzBytes_any ai al an n ci nl cl nn cn t1 d1 t2 d2 A ln cp w G.bi G.bl G.bo G.be G.hl.lens
  have HG : Hid (Given w ai al an n ci nl cl nn cn it A ln cp E LO) := G
  clear G
  go_enter Try.func6, Try.ntmps6
  go_wp2_with fail
  refine z1.mono ?_
  rintro e w' ⟨B, rfl, hB, hw⟩
  obtain rfl := hw.symm
  clear z1
  cases B
  · go_wp2
    go_ret
    exact ⟨rfl, Below.refl _ _⟩
  obtain ⟨b1, b2, b3⟩ := hB rfl
  clear hB
  have z2 := stepBytes_any ai al an n ci nl cl nn cn A ln cp w b1 b2 b3 HG.out.be HG.out.hl.lens
  go_wp2_with fail
  refine z2.mono ?_
  rintro e w' ⟨x, rfl, hx, hw⟩
  obtain rfl := hw.symm
  clear z2
  have HL0 : Hid (x ≤ 1048576 → ∀ j, j < nl → ln j ≤ 131072) := hx
  clear hx
  by_cases hx : x ≤ 1048576
  · have HLn : Hid (∀ j, j < nl → ln j ≤ 131072) := HL0.out hx
    clear HL0
    by_cases hb : n ≤ 65536 ∧ nl ≤ 65536 ∧ nn ≤ 65536
    · obtain ⟨hn, hnl, hnn⟩ := hb
      clear b1 b2 b3
      have y1 := domain_any ai al an n ci nl cl nn cn t1 A ln cp E LO w hn hnl hnn HLn.out ht1 HG.out.ro HG.out.re HG.out.hl HG.out.ho
      have y2 := domain_any ai al an n ci nl cl nn cn t2 A ln cp E LO w hn hnl hnn HLn.out ht2 HG.out.ro HG.out.re HG.out.hl HG.out.ho
      go_wp2_with fail
      refine y1.mono ?_
      rintro e w' ⟨B, rfl, hB, hw⟩
      obtain rfl := hw.symm
      clear y1
      cases B
      · clear y2
        go_wp2
        go_ret
        exact ⟨rfl, Below.refl _ _⟩
      have D1 : Hid (Dom n nl nn LO ln E t1) := hB rfl
      clear hB
      go_wp2_with fail
      refine y2.mono ?_
      rintro e w' ⟨B, rfl, hB, hw⟩
      obtain rfl := hw.symm
      clear y2
      cases B
      · go_wp2
        go_ret
        exact ⟨rfl, Below.refl _ _⟩
      have D2 : Hid (Dom n nl nn LO ln E t2) := hB rfl
      clear hB
      obtain ⟨u1, rfl⟩ := Int.eq_ofNat_of_zero_le D1.out.1
      obtain ⟨u2, rfl⟩ := Int.eq_ofNat_of_zero_le D2.out.1
      have hu1 : u1 < nn := by have := D1.out.2.1; omega
      have hu2 : u2 < nn := by have := D2.out.2.1; omega
      have O1 : Hid (OkAt n nl (mkL ln E) (LO u1)) := fun h0 => by
        have := D1.out.2.2 (by simpa using h0)
        simp only [Int.toNat_natCast] at this
        exact ⟨this.1, HLn.out _ (by omega), this.2⟩
      have O2 : Hid (OkAt n nl (mkL ln E) (LO u2)) := fun h0 => by
        have := D2.out.2.2 (by simpa using h0)
        simp only [Int.toNat_natCast] at this
        exact ⟨this.1, HLn.out _ (by omega), this.2⟩
      have Q1 : Hid (0 ≤ LO u1 → LO u1 < (nl : Int) ∧ GoodL n (ln (LO u1).toNat) (E (LO u1).toNat)) := fun h0 => D1.out.2.2 (by simpa using h0)
      have Q2 : Hid (0 ≤ LO u2 → LO u2 < (nl : Int) ∧ GoodL n (ln (LO u2).toNat) (E (LO u2).toNat)) := fun h0 => D2.out.2.2 (by simpa using h0)
      clear D1 D2 ht1 ht2 hx
      -- the three clones
      have k1 := cloneI_any ai n ci it w hn HG.out.nili HG.out.hi
      go_wp2_with fail
      refine k1.mono ?_
      rintro e W1 ⟨a1, rfl, hI1, hB1⟩
      have HI1 : Hid (OwnI W1 62 w.heap.size a1 n it) := hI1
      have HB1 : Hid (Below w.heap.size w W1) := hB1
      clear k1 hI1 hB1
      have k2 := cloneL_any al nl cl A ln cp E W1 hnl HLn.out HG.out.nill (HG.out.hl.mono HB1.out)
      go_wp2_with fail
      refine k2.mono ?_
      rintro e W2 ⟨a2, A2, rfl, hL2, hB2⟩
      have HL2 : Hid (OwnL W2 64 66 W1.heap.size a2 nl A2 ln ln E) := hL2
      have HB2 : Hid (Below W1.heap.size W1 W2) := hB2
      clear k2 hL2 hB2
      have HV3 : Hid (ViewN W2 an nn LO) := (HG.out.ho.mono HB1.out).mono HB2.out
      obtain ⟨bn, off, han, hbn, hcn⟩ : ∃ b off, an = some ⟨b, off, none⟩ ∧ b < W2.heap.size ∧ ∀ j, j < nn → W2.cell? ⟨b, off + j, none⟩ = some (.int .i32 (LO j)) := by
        rcases HV3.out with h | h
        · omega
        · exact h
      have k3 := cloneN_some bn off nn cn LO W2 hnn hbn hcn
      rw [← han] at k3
      clear hcn hbn HV3 han
      go_wp2_with fail
      refine k3.mono ?_
      rintro e W3 ⟨rfl, hR3, hB3⟩
      have HR3 : Hid (W3.rowIs W2.heap.size 21 nn (ncell LO)) := hR3
      have HB3 : Hid (Below W2.heap.size W2 W3) := hB3
      clear k3 hR3 hB3
      have HI3 : Hid (OwnI W3 62 w.heap.size a1 n it) := (HI1.out.mono HB2.out).mono HB3.out
      have HL3 : Hid (OwnL W3 64 66 W1.heap.size a2 nl A2 ln ln E) := HL2.out.mono HB3.out
      have HW3 : Hid (Below w.heap.size w W3) := (HB1.out.trans (HB2.out.mono HB1.out.size)).trans (HB3.out.mono (Nat.le_trans HB1.out.size HB2.out.size))
      have HRi : Hid (∀ x, x < n → -2147483648 ≤ (it x).2.2 ∧ (it x).2.2 ≤ 2147483647 ∧ -2147483648 ≤ (it x).2.1 ∧ (it x).2.1 ≤ 2147483647) := HG.out.ri
      clear HI1 HB1 HL2 HB2 HB3 HG
      obtain ⟨bo, hbo⟩ : ∃ bo, W2.heap.size = bo := ⟨_, rfl⟩
      rw [hbo] at HR3 ⊢
      clear hbo
      obtain ⟨l0, hl0⟩ : ∃ l0, W1.heap.size = l0 := ⟨_, rfl⟩
      rw [hl0] at HL3
      clear hl0
      -- the first holder and its two steps
      have m1 := sm_any a1 a2 n nl bo nn 0 it A2 ln E LO W3 hn hnl HLn.out (HI3.out.lower (Nat.zero_le _)) (HL3.out.lower (Nat.zero_le _)) hnn HR3.out
      go_wp2_with fail
      refine m1.mono ?_
      rintro e W4 ⟨h1, rfl, hH4, hB4⟩
      have HH4 : Hid (Holder W4 W3.heap.size h1 n it nl (mkL ln E) nn LO) := hH4
      have HB4 : Hid (Below W3.heap.size W3 W4) := hB4
      clear m1 hH4 hB4
      have p1 := zzstep_any h1 n nl nn u1 W3.heap.size d1 it (mkL ln E) LO W4 hu1 HB4.out.size HH4.out O1.out
      go_wp2_with fail
      refine p1.mono ?_
      rintro e W5 ⟨rfl, hH5, hB5⟩
      have HH5 : Hid (Holder W5 W3.heap.size h1 n (hstep d1 (LO u1) it (mkL ln E)).1 nl (hstep d1 (LO u1) it (mkL ln E)).2 nn LO) := hH5
      have HB5 : Hid (Below W3.heap.size W3 W5) := HB4.out.trans hB5
      clear p1 hH5 hB5 HH4 HB4
      have p2 := zzstep_any h1 n nl nn u2 W3.heap.size d2 (hstep d1 (LO u1) it (mkL ln E)).1 (hstep d1 (LO u1) it (mkL ln E)).2 LO W5 hu2 HB5.out.size HH5.out (O1.out.step d1 it O2.out)
      go_wp2_with fail
      refine p2.mono ?_
      rintro e W6 ⟨rfl, hH6, hB6⟩
      have HH6 : Hid (Holder W6 W3.heap.size h1 n (hstep d2 (LO u2) (hstep d1 (LO u1) it (mkL ln E)).1 (hstep d1 (LO u1) it (mkL ln E)).2).1 nl (hstep d2 (LO u2) (hstep d1 (LO u1) it (mkL ln E)).1 (hstep d1 (LO u1) it (mkL ln E)).2).2 nn LO) := hH6
      have HB6 : Hid (Below W3.heap.size W3 W6) := HB5.out.trans hB6
      clear p2 hH6 hB6 HH5 HB5
      -- the second holder and its two steps
      have m2 := sm_any a1 a2 n nl bo nn 0 it A2 ln E LO W6 hn hnl HLn.out ((HI3.out.lower (Nat.zero_le _)).mono HB6.out) ((HL3.out.lower (Nat.zero_le _)).mono HB6.out) hnn (row_all HB6.out HR3.out)
      go_wp2_with fail
      refine m2.mono ?_
      rintro e W7 ⟨h2, rfl, hH7, hB7⟩
      have HH7 : Hid (Holder W7 W6.heap.size h2 n it nl (mkL ln E) nn LO) := hH7
      have HB7 : Hid (Below W6.heap.size W6 W7) := hB7
      clear m2 hH7 hB7
      have p3 := zzstep_any h2 n nl nn u2 W6.heap.size d2 it (mkL ln E) LO W7 hu2 HB7.out.size HH7.out O2.out
      go_wp2_with fail
      refine p3.mono ?_
      rintro e W8 ⟨rfl, hH8, hB8⟩
      have HH8 : Hid (Holder W8 W6.heap.size h2 n (hstep d2 (LO u2) it (mkL ln E)).1 nl (hstep d2 (LO u2) it (mkL ln E)).2 nn LO) := hH8
      have HB8 : Hid (Below W6.heap.size W6 W8) := HB7.out.trans hB8
      clear p3 hH8 hB8 HH7 HB7
      have p4 := zzstep_any h2 n nl nn u1 W6.heap.size d1 (hstep d2 (LO u2) it (mkL ln E)).1 (hstep d2 (LO u2) it (mkL ln E)).2 LO W8 hu1 HB8.out.size HH8.out (O2.out.step d2 it O1.out)
      go_wp2_with fail
      refine p4.mono ?_
      rintro e W9 ⟨rfl, hH9, hB9⟩
      have HH9 : Hid (Holder W9 W6.heap.size h2 n (hstep d1 (LO u1) (hstep d2 (LO u2) it (mkL ln E)).1 (hstep d2 (LO u2) it (mkL ln E)).2).1 nl (hstep d1 (LO u1) (hstep d2 (LO u2) it (mkL ln E)).1 (hstep d2 (LO u2) it (mkL ln E)).2).2 nn LO) := hH9
      have HB9 : Hid (Below W6.heap.size W6 W9) := HB8.out.trans hB9
      clear p4 hH9 hB9 HH8 HB8
      -- their states
      have hlen : ∀ j, j < nl → ((mkL ln E) j).2 ≤ 131072 := HLn.out
      have q1 := state_any h1 n nl nn W3.heap.size _ _ LO W9 hn hnl (hstep_len d2 (LO u2) _ (hstep_len d1 (LO u1) it hlen)) (HH6.out.mono HB9.out)
      go_wp2_with fail
      refine q1.mono ?_
      rintro e W10 ⟨ae1, aw1, as1, vo1, ⟨v5, v6, rfl⟩, hI10, hB10⟩
      have HI10 : Hid (In3 W10 ae1 aw1 as1 n (hstep d2 (LO u2) (hstep d1 (LO u1) it (mkL ln E)).1 (hstep d1 (LO u1) it (mkL ln E)).2).1) := hI10
      have HB10 : Hid (Below W9.heap.size W9 W10) := hB10
      clear q1 hI10 hB10 HH6
      have q2 := state_any h2 n nl nn W6.heap.size _ _ LO W10 hn hnl (hstep_len d1 (LO u1) _ (hstep_len d2 (LO u2) it hlen)) (HH9.out.mono HB10.out)
      clear hlen
      go_wp2_with fail
      refine q2.mono ?_
      rintro e W11 ⟨ae2, aw2, as2, vo2, ⟨v7, v8, rfl⟩, hI11, hB11⟩
      have HI11 : Hid (In3 W11 ae2 aw2 as2 n (hstep d1 (LO u1) (hstep d2 (LO u2) it (mkL ln E)).1 (hstep d2 (LO u2) it (mkL ln E)).2).1) := hI11
      have HB11 : Hid (Below W10.heap.size W10 W11) := hB11
      clear q2 hI11 hB11 HH9
      have hs36 := HB6.out.size
      have hs69 := HB9.out.size
      have hs910 := HB10.out.size
      have HA11 : Hid (Below W3.heap.size W3 W11) := ((HB6.out.trans (HB9.out.mono hs36)).trans (HB10.out.mono (Nat.le_trans hs36 hs69))).trans (HB11.out.mono (Nat.le_trans hs36 (Nat.le_trans hs69 hs910)))
      clear HB6 HB9 HB10 hs36 hs69 hs910
      have r11 := row_all HA11.out HR3.out
      have j1 : W11.cell? ⟨bo, u1, none⟩ = some (.int .i32 (LO u1)) := r11.cell hu1
      have hbo11 := r11.lt
      clear r11
      -- the counts
      have c1 := counts_any a1 a2 n nl 0 (LO u1) it A2 ln E W11 hn HLn.out ((HI3.out.lower (Nat.zero_le _)).mono HA11.out) ((HL3.out.lower (Nat.zero_le _)).mono HA11.out) Q1.out
      go_wp2_with fail
      refine c1.mono ?_
      rintro e W12 ⟨rfl, hC1, hB12⟩
      have HC1 : Hid (W12.rowIs W11.heap.size 2 n (fun x => .int .i64 ((cntAt it (mkL ln E) (LO u1) x : Nat) : Int))) := hC1
      have HB12 : Hid (Below W11.heap.size W11 W12) := hB12
      clear c1 hC1 hB12 j1
      have HA12 : Hid (Below W3.heap.size W3 W12) := HA11.out.trans (HB12.out.mono HA11.out.size)
      have j2 : W12.cell? ⟨bo, u2, none⟩ = some (.int .i32 (LO u2)) := (row_all HA12.out HR3.out).cell hu2
      have c2 := counts_any a1 a2 n nl 0 (LO u2) it A2 ln E W12 hn HLn.out ((HI3.out.lower (Nat.zero_le _)).mono HA12.out) ((HL3.out.lower (Nat.zero_le _)).mono HA12.out) Q2.out
      go_wp2_with fail
      refine c2.mono ?_
      rintro e W13 ⟨rfl, hC2, hB13⟩
      have HC2 : Hid (W13.rowIs W12.heap.size 2 n (fun x => .int .i64 ((cntAt it (mkL ln E) (LO u2) x : Nat) : Int))) := hC2
      have HB13 : Hid (Below W12.heap.size W12 W13) := hB13
      clear c2 hC2 hB13 j2
      -- all that the last loop reads, in one world
      have HBw : Hid (Below w.heap.size w W13) := (HW3.out.trans (HA12.out.mono HW3.out.size)).trans (HB13.out.mono (Nat.le_trans HW3.out.size HA12.out.size))
      have HIt : Hid (OwnI W13 62 0 a1 n it) := ((HI3.out.lower (Nat.zero_le _)).mono HA12.out).mono HB13.out
      have HR1 : Hid (In3 W13 ae1 aw1 as1 n (fun x => closed d1 d2 (cntAt it (mkL ln E) (LO u1) x) (cntAt it (mkL ln E) (LO u2) x) (it x))) :=
        (((HI10.out.mono HB11.out).mono HB12.out).mono HB13.out).congr (fun x hx => (both n nl (mkL ln E) it d1 (LO u1) d2 (LO u2) O1.out O2.out x ⟨(HRi.out x hx).1, (HRi.out x hx).2.1⟩).1)
      have HR2 : Hid (In3 W13 ae2 aw2 as2 n (fun x => closed d1 d2 (cntAt it (mkL ln E) (LO u1) x) (cntAt it (mkL ln E) (LO u2) x) (it x))) :=
        ((HI11.out.mono HB12.out).mono HB13.out).congr (fun x hx => (both n nl (mkL ln E) it d1 (LO u1) d2 (LO u2) O1.out O2.out x ⟨(HRi.out x hx).1, (HRi.out x hx).2.1⟩).2)
      have HD1 : Hid (W13.rowIs W11.heap.size 2 n (fun x => .int .i64 ((cntAt it (mkL ln E) (LO u1) x : Nat) : Int))) := row_all HB13.out HC1.out
      have HK : Hid (∀ x, cntAt it (mkL ln E) (LO u1) x ≤ 131072 ∧ cntAt it (mkL ln E) (LO u2) x ≤ 131072) := fun x => ⟨cntAt_le it O1.out x, cntAt_le it O2.out x⟩
      clear HA11 HA12 HB11 HB12 HB13 HI3 HL3 HR3 HI10 HI11 HW3 O1 O2 Q1 Q2 HLn hbo11 HC1 hu1 hu2
      obtain ⟨C1, hC1⟩ : ∃ C, cntAt it (mkL ln E) (LO u1) = C := ⟨_, rfl⟩
      obtain ⟨C2, hC2⟩ : ∃ C, cntAt it (mkL ln E) (LO u2) = C := ⟨_, rfl⟩
      rw [hC1] at HR1 HR2 HD1 HK
      rw [hC2] at HR1 HR2 HC2 HK
      clear hC1 hC2
      obtain ⟨bc1, hbc1⟩ : ∃ b, W11.heap.size = b := ⟨_, rfl⟩
      obtain ⟨bc2, hbc2⟩ : ∃ b, W12.heap.size = b := ⟨_, rfl⟩
      rw [hbc1] at HD1 ⊢
      rw [hbc2] at HC2 ⊢
      clear hbc1 hbc2
      by_cases hn0 : 0 < n
      · obtain ⟨bi, rfl, ri⟩ : ∃ b, a1 = some ⟨b, 0, none⟩ ∧ W13.rowIs b 62 (n * 3) (icell it) := by
          rcases HIt.out with ⟨_, h⟩ | ⟨b, h1, _, h2⟩
          · omega
          · exact ⟨b, h1, h2⟩
        obtain ⟨be1, bw1, bs1, rfl, rfl, rfl, e1, e2, e3⟩ := (by rcases HR1.out with ⟨_, _, _, h⟩ | h; exact absurd h (by omega); exact h : ∃ be bw bs, ae1 = some ⟨be, 0, none⟩ ∧ aw1 = some ⟨bw, 0, none⟩ ∧ as1 = some ⟨bs, 0, none⟩ ∧ W13.rowIs be 21 n (ncell fun j => (closed d1 d2 (C1 j) (C2 j) (it j)).1) ∧ W13.rowIs bw 21 n (ncell fun j => (closed d1 d2 (C1 j) (C2 j) (it j)).2.1) ∧ W13.rowIs bs 21 n (ncell fun j => (closed d1 d2 (C1 j) (C2 j) (it j)).2.2))
        obtain ⟨be2, bw2, bs2, rfl, rfl, rfl, f1, f2, f3⟩ := (by rcases HR2.out with ⟨_, _, _, h⟩ | h; exact absurd h (by omega); exact h : ∃ be bw bs, ae2 = some ⟨be, 0, none⟩ ∧ aw2 = some ⟨bw, 0, none⟩ ∧ as2 = some ⟨bs, 0, none⟩ ∧ W13.rowIs be 21 n (ncell fun j => (closed d1 d2 (C1 j) (C2 j) (it j)).1) ∧ W13.rowIs bw 21 n (ncell fun j => (closed d1 d2 (C1 j) (C2 j) (it j)).2.1) ∧ W13.rowIs bs 21 n (ncell fun j => (closed d1 d2 (C1 j) (C2 j) (it j)).2.2))
        have HRows : Hid (W13.rowIs bi 62 (n * 3) (icell it) ∧ W13.rowIs be1 21 n (ncell fun j => (closed d1 d2 (C1 j) (C2 j) (it j)).1) ∧ W13.rowIs bw1 21 n (ncell fun j => (closed d1 d2 (C1 j) (C2 j) (it j)).2.1) ∧ W13.rowIs bs1 21 n (ncell fun j => (closed d1 d2 (C1 j) (C2 j) (it j)).2.2) ∧ W13.rowIs be2 21 n (ncell fun j => (closed d1 d2 (C1 j) (C2 j) (it j)).1) ∧ W13.rowIs bw2 21 n (ncell fun j => (closed d1 d2 (C1 j) (C2 j) (it j)).2.1) ∧ W13.rowIs bs2 21 n (ncell fun j => (closed d1 d2 (C1 j) (C2 j) (it j)).2.2)) := ⟨ri, e1, e2, e3, f1, f2, f3⟩
        clear HIt HR1 HR2 ri e1 e2 e3 f1 f2 f3
        go_wp2_with fail
        go_loopw [39] (fun i wr => ∃ k : Nat, k ≤ n ∧ i = .int .i64 k ∧ Hid (Below W13.heap.size W13 wr)) (fun i _ => n - (intOf i).toNat)
        case atStart => exact ⟨0, Nat.zero_le _, rfl, Below.refl _ _⟩
        case round =>
          obtain ⟨k, hk, rfl, HV⟩ := hrel
          obtain ⟨V, rfl⟩ : ∃ V, V = wr := ⟨wr, rfl⟩
          by_cases hlt : k < n
          · obtain ⟨g0, g1, g2, g3, g4, g5, g6⟩ := HRows.out
            have q0 := row_all HV.out g0
            have q1 := row_all HV.out g1
            have q2 := row_all HV.out g2
            have q3 := row_all HV.out g3
            have q4 := row_all HV.out g4
            have q5 := row_all HV.out g5
            have q6 := row_all HV.out g6
            have q7 := row_all HV.out HD1.out
            have q8 := row_all HV.out HC2.out
            obtain ⟨i1, i2, i3⟩ := iget q0 hlt
            have x1 : V.cell? ⟨be1, k, none⟩ = some (.int .i32 (closed d1 d2 (C1 k) (C2 k) (it k)).1) := q1.cell hlt
            have x2 : V.cell? ⟨bw1, k, none⟩ = some (.int .i32 (closed d1 d2 (C1 k) (C2 k) (it k)).2.1) := q2.cell hlt
            have x3 : V.cell? ⟨bs1, k, none⟩ = some (.int .i32 (closed d1 d2 (C1 k) (C2 k) (it k)).2.2) := q3.cell hlt
            have x4 : V.cell? ⟨be2, k, none⟩ = some (.int .i32 (closed d1 d2 (C1 k) (C2 k) (it k)).1) := q4.cell hlt
            have x5 : V.cell? ⟨bw2, k, none⟩ = some (.int .i32 (closed d1 d2 (C1 k) (C2 k) (it k)).2.1) := q5.cell hlt
            have x6 : V.cell? ⟨bs2, k, none⟩ = some (.int .i32 (closed d1 d2 (C1 k) (C2 k) (it k)).2.2) := q6.cell hlt
            have x7 : V.cell? ⟨bc1, k, none⟩ = some (.int .i64 ((C1 k : Nat) : Int)) := q7.cell hlt
            have x8 : V.cell? ⟨bc2, k, none⟩ = some (.int .i64 ((C2 k : Nat) : Int)) := q8.cell hlt
            have t0 := q0.lt
            have t1 := q1.lt
            have t2 := q2.lt
            have t3 := q3.lt
            have t4 := q4.lt
            have t5 := q5.lt
            have t6 := q6.lt
            have t7 := q7.lt
            have t8 := q8.lt
            obtain ⟨m1, m2⟩ := HK.out k
            obtain ⟨s1, s2, s3, s4⟩ := HRi.out k hlt
            obtain ⟨⟨p0, p1, p2⟩, hp⟩ : ∃ p, it k = p := ⟨_, rfl⟩
            obtain ⟨n1, hn1⟩ : ∃ c, C1 k = c := ⟨_, rfl⟩
            obtain ⟨n2, hn2⟩ : ∃ c, C2 k = c := ⟨_, rfl⟩
            rw [hp] at i1 i2 i3 x1 x2 x3 x4 x5 x6 s1 s2 s3 s4
            rw [hn1] at x1 x2 x3 x4 x5 x6 x7 m1
            rw [hn2] at x1 x2 x3 x4 x5 x6 x8 m2
            simp only at i1 i2 i3 s1 s2 s3 s4
            clear hp hn1 hn2 q0 q1 q2 q3 q4 q5 q6 q7 q8 g0 g1 g2 g3 g4 g5 g6 HRows HK HRi HD1 HC2
            have hw1 : IntKind.i64.wrap ((n1 : Int) + (n2 : Int)) = (n1 : Int) + (n2 : Int) := by rw [IntKind.wrap_i64]; omega
            by_cases hz : (0 : Int) < (n1 : Int) + (n2 : Int)
            · obtain ⟨ra, hra⟩ : ∃ r, Pl.resetAt p2 = r := ⟨_, rfl⟩
              have hcall := fun W => reset_any p2 W s1 s2
              rw [hra] at hcall
              by_cases hr : ra ≤ (n1 : Int) + (n2 : Int)
              · have hcl : closed d1 d2 n1 n2 (p0, p1, p2) = (0, 0, 0) := by unfold Pl.closed; rw [if_pos hz]; simp only [hra]; rw [if_pos hr]
                rw [hcl] at x1 x2 x3 x4 x5 x6
                simp only at x1 x2 x3 x4 x5 x6
                clear hcl hra
                go_wp2
                go_quiet (fail)
                go_wp2_with fail
                refine (hcall _).mono ?_
                rintro e w' ⟨rfl, rfl⟩
                clear hcall
                go_wp2
                go_quiet (fail)
                go_wp2
                go_quiet (fail)
                go_wp2
                go_roundw
                case rel => exact ⟨k + 1, by omega, by go_num, below_drewN ((((below_drewN (HV.out.alloc HV.out.size _) _).setCell (p := ⟨V.heap.size, _, none⟩) HV.out.size _).setCell (p := ⟨V.heap.size, _, none⟩) HV.out.size _).setCell (p := ⟨V.heap.size, _, none⟩) HV.out.size _) _⟩
                case measure => simp [intOf]; omega
              · have hcl : closed d1 d2 n1 n2 (p0, p1, p2) = (p0, wrap32 (p1 + (n1 : Int) * d1 + (n2 : Int) * d2), wrap32 (p2 - ((n1 : Int) + (n2 : Int)))) := by unfold Pl.closed; rw [if_pos hz]; simp only [hra]; rw [if_neg hr]
                rw [hcl] at x1 x2 x3 x4 x5 x6
                simp only at x1 x2 x3 x4 x5 x6
                clear hcl hra
                have b1 := mul_bd n1 d1 m1 hd1.1 hd1.2
                have b2 := mul_bd n2 d2 m2 hd2.1 hd2.2
                have v1 : IntKind.i64.wrap p1 = p1 := by rw [IntKind.wrap_i64]; omega
                have v2 : IntKind.i64.wrap d1 = d1 := by rw [IntKind.wrap_i64]; omega
                have v3 : IntKind.i64.wrap d2 = d2 := by rw [IntKind.wrap_i64]; omega
                have v4 : IntKind.i64.wrap ((n1 : Int) * d1) = (n1 : Int) * d1 := by rw [IntKind.wrap_i64]; omega
                have v5 : IntKind.i64.wrap ((n2 : Int) * d2) = (n2 : Int) * d2 := by rw [IntKind.wrap_i64]; omega
                have v6 : IntKind.i64.wrap (p1 + (n1 : Int) * d1) = p1 + (n1 : Int) * d1 := by rw [IntKind.wrap_i64]; omega
                have v7 : IntKind.i64.wrap (p1 + (n1 : Int) * d1 + (n2 : Int) * d2) = p1 + (n1 : Int) * d1 + (n2 : Int) * d2 := by rw [IntKind.wrap_i64]; omega
                have v8 : IntKind.i32.wrap (p1 + (n1 : Int) * d1 + (n2 : Int) * d2) = wrap32 (p1 + (n1 : Int) * d1 + (n2 : Int) * d2) := by rw [IntKind.wrap_i32]; unfold wrap32; rfl
                go_wp2
                go_quiet (fail)
                go_wp2_with fail
                refine (hcall _).mono ?_
                rintro e w' ⟨rfl, rfl⟩
                clear hcall
                go_wp2
                go_region
                all_goals
                  go_wp2
                  go_quiet (fail)
                  go_wp2
                  go_quiet (fail)
                  go_wp2
                  go_roundw
                  case rel =>
                    refine ⟨k + 1, by omega, by go_num, ?_⟩
                    show Below _ _ _
                    repeat (first | exact HV.out | refine Below.setCell (p := ⟨V.heap.size, _, none⟩) ?_ HV.out.size _ | refine Below.alloc ?_ HV.out.size _ | refine below_drewN ?_ _ | refine Below.drew ?_)
                  case measure => simp [intOf]; omega
            · have hcl : closed d1 d2 n1 n2 (p0, p1, p2) = (p0, p1, p2) := by unfold Pl.closed; rw [if_neg hz]
              rw [hcl] at x1 x2 x3 x4 x5 x6
              simp only at x1 x2 x3 x4 x5 x6
              clear hcl
              go_wp2
              go_quiet (fail)
              go_wp2
              go_quiet (fail)
              go_wp2
              go_quiet (fail)
              go_wp2
              go_roundw
              case rel => exact ⟨k + 1, by omega, by go_num, below_drewN (HV.out.alloc HV.out.size _) _⟩
              case measure => simp [intOf]; omega
          · go_wp2
            go_ret
            exact ⟨rfl, HBw.out.trans (HV.out.mono HBw.out.size)⟩
      · go_wp2_with fail
        go_loop [39] (fun i => i = .int .i64 0) (fun _ => 0)
        case atStart => rfl
        case round =>
          obtain rfl := hrel
          go_wp2
          go_ret
          exact ⟨rfl, HBw.out⟩
    · clear HG HLn
      by_cases g1 : n ≤ 65536
      · by_cases g2 : nl ≤ 65536
        · have g3 : ¬ nn ≤ 65536 := fun h => hb ⟨g1, g2, h⟩
          clear hb
          go_wp2
          go_ret
          exact ⟨rfl, Below.refl _ _⟩
        · clear hb
          go_wp2
          go_ret
          exact ⟨rfl, Below.refl _ _⟩
      · clear hb
        go_wp2
        go_ret
        exact ⟨rfl, Below.refl _ _⟩
  · clear HL0 b1 b2 b3
    go_wp2
    go_ret
    exact ⟨rfl, Below.refl _ _⟩

end Go.Proofs.Qxb6605516a
