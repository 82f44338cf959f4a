import Derived.Test.Qxb6605516aStepLaws
import Derived.Test.Qxb6605516aDomain
import Derived.Deep.QuietTactic
import Derived.BigQuiet
namespace Go.Proofs.Qxb6605516a
open Go.RowKit Go.Deep
open Pl (I3 E2 Ls upd upd_same upd_other run)

theorem upd_upd {α : Type} (f : Nat → α) (k : Nat) (u v : α) : upd (upd f k u) k v = upd f k v := by
  funext j
  unfold upd
  split <;> rfl

section
variable {d : Int} {it itk : Nat → I3} {E Gk : Nat → E2} {k m x : Nat}
theorem run_miss (hs : run d it E k = (itk, Gk, m)) (hx : (E k).1 = (x : Int)) (h : (itk x).1 ≠ (E k).2) : run d it E (k + 1) = (itk, Gk, m) := by
  show Pl.stepE d (run d it E k) (E k) = _
  rw [hs]
  simp only [Pl.stepE, hx, Int.toNat_natCast, if_neg h]
theorem run_reset (hs : run d it E k = (itk, Gk, m)) (hx : (E k).1 = (x : Int)) (h : (itk x).1 = (E k).2) (hn : wrap32 ((itk x).2.2 - 1) < 0) : run d it E (k + 1) = (upd itk x (0, 0, 0), Gk, m) := by
  show Pl.stepE d (run d it E k) (E k) = _
  rw [hs]
  have hn' : (Pl.one d (itk x)).2.2 < 0 := hn
  simp only [Pl.stepE, hx, Int.toNat_natCast, if_pos h, if_pos hn']
theorem run_keep (hs : run d it E k = (itk, Gk, m)) (hx : (E k).1 = (x : Int)) (h : (itk x).1 = (E k).2) (hn : ¬ wrap32 ((itk x).2.2 - 1) < 0) : run d it E (k + 1) = (upd itk x ((itk x).1, wrap32 ((itk x).2.1 + d), wrap32 ((itk x).2.2 - 1)), upd Gk m (E k), m + 1) := by
  show Pl.stepE d (run d it E k) (E k) = _
  rw [hs]
  have hn' : ¬ (Pl.one d (itk x)).2.2 < 0 := hn
  simp only [Pl.stepE, hx, Int.toNat_natCast, if_pos h, if_neg hn']
  rfl
end

theorem Chg.weaken {Z Z' : Nat → Prop} {w w' : World} (h : Chg Z w w') (hz : ∀ k, Z k → Z' k) : Chg Z' w w' := ⟨h.os, h.tape, h.output, h.size, fun k hk hn => h.block k hk (fun h' => hn (hz k h'))⟩

set_option maxHeartbeats 2000000 in
set_option maxRecDepth 100000 in
theorem step_main (hb bl bo bi g n nl nn tn a lo : Nat) (d : Int) (it : Nat → I3) (L : Ls) (LO : Nat → Int) (A : Nat → Option Addr) (cp : Nat → Nat) (w : World) (htn : tn < nn) (hat : LO tn = (a : Int)) (ha : a < nl) (hl2 : (L a).2 ≤ 131072) (hlow : lo ≤ w.heap.size)
    (hh : w.rowIs hb 104 7 (hcell (.slice (some ⟨bi, 0, none⟩) n n) (.slice (some ⟨bl, 0, none⟩) nl nl) (.slice (some ⟨bo, 0, none⟩) nn nn))) (hhb : lo ≤ hb) (hbl : lo ≤ bl)
    (rl : w.rowIs bl 107 nl (lv A (fun j => (L j).2) cp)) (each : ∀ j, j < nl → OwnR w 109 2 lo (A j) (L j).2 (cp j) (ecell (L j).1))
    (inj : ∀ i j, i < nl → j < nl → A i = A j → A i ≠ none → i = j) (hbo : lo ≤ bo) (ro : w.rowIs bo 21 nn (ncell LO))
    (hbi : lo ≤ bi) (ri : w.rowIs bi 106 (n * 3) (icell it)) (hA : A a = some ⟨g, 0, none⟩) (hg : lo ≤ g) (hlc : (L a).2 ≤ cp a) (rg : w.rowIs g 109 (cp a * 2) (ecell (L a).1))
    (hgood : ∀ j, j < (L a).2 → 0 ≤ ((L a).1 j).1 ∧ ((L a).1 j).1 < (n : Int)) :
    Calls Try.prog 40 #[.pointer (some ⟨hb, 0, none⟩), .int .i32 (tn : Int), .int .i32 d] w fun e w' => e = .returned (.tuple #[]) ∧
      Holder w' lo hb n (run d it (L a).1 (L a).2).1 nl (upd L a (run d it (L a).1 (L a).2).2) nn LO ∧ Below lo w w' := by
  obtain ⟨i0, hi0, hz0, hz1, hz2⟩ := info_parts info109
  have HFin : Hid (∀ wf, Chg (fun x => x = bi ∨ x = g) w wf → wf.rowIs bi 106 (n * 3) (icell (run d it (L a).1 (L a).2).1) → wf.rowIs g 109 (cp a * 2) (ecell (run d it (L a).1 (L a).2).2.1) →
      Holder (wf.setCell ⟨bl, a, none⟩ (.slice (some ⟨g, 0, none⟩) (run d it (L a).1 (L a).2).2.2 (cp a))) lo hb n (run d it (L a).1 (L a).2).1 nl (upd L a (run d it (L a).1 (L a).2).2) nn LO ∧ Below lo w (wf.setCell ⟨bl, a, none⟩ (.slice (some ⟨g, 0, none⟩) (run d it (L a).1 (L a).2).2.2 (cp a)))) := fun wf hch h1 h2 => by
    have := holder_store (it' := (run d it (L a).1 (L a).2).1) hlow hh hhb hbl rl each inj hbo ro (fun x => x = bi ∨ x = g) hch a ha
      (fun x hx => by rcases hx with rfl | rfl; exact .inr ⟨_, _, ri⟩; exact .inl hA) (fun x hx => by rcases hx with rfl | rfl; exact hbi; exact hg)
      (.inr ⟨bi, rfl, hbi, h1⟩) (run d it (L a).1 (L a).2).2.1 (run d it (L a).1 (L a).2).2.2 (.inr ⟨g, hA, hg, Nat.le_trans (Pl.run_le _ _ _ _) hlc, h2⟩)
    rw [hA] at this
    exact this
  have k3 : w.cell? ⟨hb, 3, none⟩ = some (.slice (some ⟨bl, 0, none⟩) nl nl) := hh.cell (by decide)
  have k4 : w.cell? ⟨hb, 4, none⟩ = some (.slice (some ⟨bo, 0, none⟩) nn nn) := hh.cell (by decide)
  have c4 : w.cell? ⟨bo, tn, none⟩ = some (.int .i32 (a : Int)) := by rw [ro.cell htn]; unfold ncell; rw [hat]
  have c5 : w.cell? ⟨bl, a, none⟩ = some (.slice (some ⟨g, 0, none⟩) (L a).2 (cp a)) := by rw [rl.cell ha]; unfold lv; rw [hA]
  have n1 : hb ≠ bi := row_ne hh ri (by decide)
  have n2 : hb ≠ g := row_ne hh rg (by decide)
  have n3 : bl ≠ bi := row_ne rl ri (by decide)
  have n4 : bl ≠ g := row_ne rl rg (by decide)
  have n5 : bi ≠ g := row_ne ri rg (by decide)
  obtain ⟨E, hE⟩ : ∃ E, (L a).1 = E := ⟨_, rfl⟩
  obtain ⟨l, hl⟩ : ∃ l, (L a).2 = l := ⟨_, rfl⟩
  obtain ⟨c, hcc⟩ : ∃ c, cp a = c := ⟨_, rfl⟩
  rw [hE, hl, hcc] at HFin
  rw [hE, hcc] at rg
  rw [hE, hl] at hgood
  rw [hl, hcc] at hlc c5
  rw [hl] at hl2
  rw [hE, hl]
  have HGood : Hid (∀ j, j < l → 0 ≤ (E j).1 ∧ (E j).1 < (n : Int)) := hgood
  have HHH : Hid (w.rowIs hb 104 7 (hcell (.slice (some ⟨bi, 0, none⟩) n n) (.slice (some ⟨bl, 0, none⟩) nl nl) (.slice (some ⟨bo, 0, none⟩) nn nn))) := hh
  have HRl : Hid (w.rowIs bl 107 nl (lv A (fun j => (L j).2) cp)) := rl
  clear hE hl hcc each inj ro hgood hh rl hA hat
  go_enter Try.func40, Try.ntmps40
  go_wp2
  go_loopw [8, 32] (fun v i wr => ∃ k : Nat, k ≤ l ∧ i = .int .i64 k ∧ v = .slice (some ⟨g, 0, none⟩) (run d it E k).2.2 c ∧ wr.rowIs bi 106 (n * 3) (icell (run d it E k).1) ∧ wr.rowIs g 109 (c * 2) (ecell (run d it E k).2.1) ∧ Chg (fun x => x = bi ∨ x = g) w wr) (fun _ i _ => l - (intOf i).toNat)
  case atStart => exact ⟨0, Nat.zero_le _, rfl, rfl, ri, rg, Chg.refl _ _⟩
  case round =>
    obtain ⟨k, hk, rfl, rfl, hri, hrg, hch⟩ := hrel
    obtain ⟨V, rfl⟩ : ∃ V, V = wr := ⟨wr, rfl⟩
    have hrest := Pl.run_rest d it E k k (Pl.run_le d it E k)
    have hml := Pl.run_le d it E k
    have hhV := hch.row HHH.out (fun h => by rcases h with h | h; exact n1 h; exact n2 h)
    clear ri rg k3 k4 c4 c5
    by_cases hlt : k < l
    · obtain ⟨⟨itk, Gk, m⟩, hs⟩ : ∃ s, run d it E k = s := ⟨_, rfl⟩
      rw [hs] at hri hrg hrest hml ⊢
      simp only at hri hrg hrest hml ⊢
      have hx := HGood.out k hlt
      obtain ⟨x, hxx⟩ := Int.eq_ofNat_of_zero_le hx.1
      obtain ⟨x0, x1⟩ := eget hrg (show k < c by omega)
      rw [hrest, hxx] at x0
      rw [hrest] at x1
      have hxn : x < n := by omega
      obtain ⟨i1, i2, i3⟩ := iget hri hxn
      have f1 := hri.frozen (x * 3)
      have f2 := hri.frozen (x * 3 + 1)
      have f3 := hri.frozen (x * 3 + 2)
      have kk2 : V.cell? ⟨hb, 2, none⟩ = some (.slice (some ⟨bi, 0, none⟩) n n) := hhV.cell (by decide)
      have hbV : bi < V.heap.size := hri.lt
      have hgV : g < V.heap.size := hrg.lt
      have hhlt : hb < V.heap.size := hhV.lt
      have HS : Hid (run d it E k = (itk, Gk, m)) := hs
      have HX : Hid ((E k).1 = (x : Int)) := hxx
      clear hs hxx hrest hx hhV
      obtain ⟨ep, hep⟩ : ∃ q, (E k).2 = q := ⟨_, rfl⟩
      obtain ⟨p0, hp0⟩ : ∃ q, (itk x).1 = q := ⟨_, rfl⟩
      obtain ⟨p1, hp1⟩ : ∃ q, (itk x).2.1 = q := ⟨_, rfl⟩
      obtain ⟨p2, hp2⟩ : ∃ q, (itk x).2.2 = q := ⟨_, rfl⟩
      rw [hep] at x1
      rw [hp0] at i1
      rw [hp1] at i2
      rw [hp2] at i3
      have HP : Hid ((E k).2 = ep ∧ (itk x).1 = p0 ∧ (itk x).2.1 = p1 ∧ (itk x).2.2 = p2) := ⟨hep, hp0, hp1, hp2⟩
      clear hep hp0 hp1 hp2 HFin HGood HHH HRl
      by_cases hm : p0 = ep
      · have hmb : (p0 != ep) = false := by simp [hm]
        have HM : Hid (p0 = ep) := hm
        clear hm
        go_wp2
        go_quiet (fail)
        go_wp2
        go_quiet (fail)
        by_cases hneg : wrap32 (p2 - 1) < 0
        · have HRun : Hid (run d it E (k + 1) = (upd itk x (0, 0, 0), Gk, m)) := run_reset HS.out HX.out (by rw [HP.out.1, HP.out.2.1]; exact HM.out) (by rw [HP.out.2.2.2]; exact hneg)
          clear x0 x1
          go_wp2
          go_roundw
          case rel =>
            refine ⟨k + 1, by omega, by go_num, by rw [HRun.out], ?_, ?_, ?_⟩
            · rw [HRun.out]
              have := iset3 (iset12 (hri.alloc (.cells #[.int .i32 (x : Int), .int .i32 ep] 109)) x (wrap32 (p1 + d)) (wrap32 (p2 - 1))) x (0, 0, 0)
              rw [upd_upd] at this
              exact this
            · rw [HRun.out]
              have hgb : g ≠ bi := fun h => n5 h.symm
              exact (((((hrg.alloc (.cells #[.int .i32 (x : Int), .int .i32 ep] 109)).setOther (a := ⟨bi, _, none⟩) hgb _).setOther (a := ⟨bi, _, none⟩) hgb _).setOther (a := ⟨bi, _, none⟩) hgb _).setOther (a := ⟨bi, _, none⟩) hgb _).setOther (a := ⟨bi, _, none⟩) hgb _
            · exact ((((((hch.alloc _).drewN _).setCell (p := ⟨bi, _, none⟩) (.inl (.inl rfl)) _).setCell (p := ⟨bi, _, none⟩) (.inl (.inl rfl)) _).setCell (p := ⟨bi, _, none⟩) (.inl (.inl rfl)) _).setCell (p := ⟨bi, _, none⟩) (.inl (.inl rfl)) _).setCell (p := ⟨bi, _, none⟩) (.inl (.inl rfl)) _
          case measure => simp [intOf]; omega
        · have HRun : Hid (run d it E (k + 1) = (upd itk x (p0, wrap32 (p1 + d), wrap32 (p2 - 1)), upd Gk m (E k), m + 1)) := by
            have := run_keep HS.out HX.out (by rw [HP.out.1, HP.out.2.1]; exact HM.out) (by rw [HP.out.2.2.2]; exact hneg)
            rw [HP.out.2.1, HP.out.2.2.1, HP.out.2.2.2] at this
            exact this
          have HEk : Hid (E k = ((x : Int), ep)) := Prod.ext HX.out HP.out.1
          clear x0 x1
          go_wp2_with (at_builtin; refine wpList_append_pair _ rfl _ _ 107 rfl 109 i0 Try.underlying107 hi0 hz1 g m c Gk rfl ?hrow ?hk _ _ ((x : Int), ep) rfl ?c0 ?c1 ?_)
          case hrow =>
            have hgb : g ≠ bi := fun h => n5 h.symm
            exact (((hrg.alloc (.cells #[.int .i32 (x : Int), .int .i32 ep] 109)).setOther (a := ⟨bi, _, none⟩) hgb _).setOther (a := ⟨bi, _, none⟩) hgb _).alloc _
          case hk => omega
          intro w' hr' hc' _
          have R1 := hc'.row ((iset12 (hri.alloc (.cells #[.int .i32 (x : Int), .int .i32 ep] 109)) x (wrap32 (p1 + d)) (wrap32 (p2 - 1))).alloc (.cells #[.int .i32 (x : Int), .int .i32 ep] 109)) n5
          have R2 := (((((hch.alloc (.cells #[.int .i32 (x : Int), .int .i32 ep] 109)).drewN 0).setCell (p := ⟨bi, x * 3 + 1, none⟩) (.inl (.inl rfl)) (.int .i32 (wrap32 (p1 + d)))).setCell (p := ⟨bi, x * 3 + 2, none⟩) (.inl (.inl rfl)) (.int .i32 (wrap32 (p2 - 1)))).alloc (.cells #[.int .i32 (x : Int), .int .i32 ep] 109))
          have R3 : Chg (fun x => x = bi ∨ x = g) w w' := R2.trans ⟨hc'.os, hc'.tape, hc'.output, hc'.size, fun b hb hz => hc'.block b hb (fun e => hz (.inr e))⟩
          rw [HP.out.2.1] at R1
          have HQ : Hid (_ ∧ _ ∧ _) := And.intro R1 (And.intro hr' R3)
          clear R1 R2 R3 hr' hc' hri hrg hch
          go_wp2
          go_roundw
          case rel =>
            refine ⟨k + 1, by omega, by go_num, by rw [HRun.out], ?_, ?_, ?_⟩
            · rw [HRun.out]; exact HQ.out.1
            · rw [HRun.out, HEk.out]; exact HQ.out.2.1
            · exact HQ.out.2.2
          case measure => simp [intOf]; omega
      · have hmb : (p0 != ep) = true := by simp [hm]
        have HRun : Hid (run d it E (k + 1) = (itk, Gk, m)) := run_miss HS.out HX.out (by rw [HP.out.1, HP.out.2.1]; exact hm)
        clear hm
        go_wp2
        go_quiet (fail)
        go_wp2
        go_quiet (fail)
        go_wp2
        go_roundw
        case rel =>
          refine ⟨k + 1, by omega, by go_num, by rw [HRun.out], ?_, ?_, ?_⟩
          · rw [HRun.out]; exact hri.alloc (.cells #[.int .i32 (x : Int), .int .i32 ep] 109)
          · rw [HRun.out]; exact hrg.alloc (.cells #[.int .i32 (x : Int), .int .i32 ep] 109)
          · exact (hch.alloc _).drewN _
        case measure => simp [intOf]; omega
    · obtain rfl : k = l := by omega
      have kk3 : V.cell? ⟨hb, 3, none⟩ = some (.slice (some ⟨bl, 0, none⟩) nl nl) := hhV.cell (by decide)
      have hlV := hch.row HRl.out (fun h => by rcases h with h | h; exact n3 h; exact n4 h)
      have kb := hlV.cell ha
      have kf := hlV.frozen a
      obtain ⟨vv, hvv⟩ : ∃ v, lv A (fun j => (L j).2) cp a = v := ⟨_, rfl⟩
      rw [hvv] at kb
      have HF := HFin.out V hch hri hrg
      have HF2 : Hid (_ ∧ _) := HF
      clear hvv hlV hhV HF HFin HHH HRl HGood hri hrg hrest
      go_wp2
      go_end0
      exact ⟨rfl, HF2.out.1, HF2.out.2⟩

/-- A transaction without a list: nothing is done. -/
theorem step_none (hb nn bo tn : Nat) (vi vl : Value) (d v : Int) (w : World) (htn : tn < nn) (hv : v < 0)
    (hh : w.rowIs hb 104 7 (hcell vi vl (.slice (some ⟨bo, 0, none⟩) nn nn))) (c4 : w.cell? ⟨bo, tn, none⟩ = some (.int .i32 v)) :
    Calls Try.prog 40 #[.pointer (some ⟨hb, 0, none⟩), .int .i32 (tn : Int), .int .i32 d] w fun e w' => e = .returned (.tuple #[]) ∧ w' = w := by
  have k4 : w.cell? ⟨hb, 4, none⟩ = some (.slice (some ⟨bo, 0, none⟩) nn nn) := hh.cell (by decide)
  clear hh
  go_enter Try.func40, Try.ntmps40
  go_wp2
  refine bodyPost_ret (v := .tuple #[]) (by simp [results, Try.results40]) rfl ?_
  exact ⟨rfl, rfl⟩

/-- A list without entries: its slice is stored back. -/
theorem step_empty (hb bl bo nl nn tn a c : Nat) (ad : Option Addr) (had : ad = none ∧ c = 0 ∨ ∃ g, ad = some ⟨g, 0, none⟩) (vi : Value) (d : Int) (w : World) (htn : tn < nn) (ha : a < nl)
    (hh : w.rowIs hb 104 7 (hcell vi (.slice (some ⟨bl, 0, none⟩) nl nl) (.slice (some ⟨bo, 0, none⟩) nn nn))) (c4 : w.cell? ⟨bo, tn, none⟩ = some (.int .i32 (a : Int)))
    (c5 : w.cell? ⟨bl, a, none⟩ = some (.slice ad 0 c)) (kf : w.frozen? ⟨bl, a, none⟩ = false) :
    Calls Try.prog 40 #[.pointer (some ⟨hb, 0, none⟩), .int .i32 (tn : Int), .int .i32 d] w fun e w' => e = .returned (.tuple #[]) ∧ w' = w.setCell ⟨bl, a, none⟩ (.slice ad 0 c) := by
  have k3 : w.cell? ⟨hb, 3, none⟩ = some (.slice (some ⟨bl, 0, none⟩) nl nl) := hh.cell (by decide)
  have k4 : w.cell? ⟨hb, 4, none⟩ = some (.slice (some ⟨bo, 0, none⟩) nn nn) := hh.cell (by decide)
  clear hh
  rcases had with ⟨rfl, rfl⟩ | ⟨g, rfl⟩
  · go_enter Try.func40, Try.ntmps40
    go_wp2
    go_loop [8, 32] (fun v i => v = .slice none 0 0 ∧ i = .int .i64 0) (fun _ _ => 0)
    case atStart => exact ⟨rfl, rfl⟩
    case round =>
      obtain ⟨rfl, rfl⟩ := hrel
      go_wp2
      go_end0
      exact ⟨rfl, rfl⟩
  · go_enter Try.func40, Try.ntmps40
    go_wp2
    go_loop [8, 32] (fun v i => v = .slice (some ⟨g, 0, none⟩) 0 c ∧ i = .int .i64 0) (fun _ _ => 0)
    case atStart => exact ⟨rfl, rfl⟩
    case round =>
      obtain ⟨rfl, rfl⟩ := hrel
      go_wp2
      go_end0
      exact ⟨rfl, rfl⟩

/-- EVERY STEP of a holder. -/
theorem step_any (hb n nl nn tn lo : Nat) (d : Int) (it : Nat → I3) (L : Ls) (LO : Nat → Int) (w : World) (htn : tn < nn) (hlow : lo ≤ w.heap.size) (hH : Holder w lo hb n it nl L nn LO)
    (hdom : 0 ≤ LO tn → LO tn < (nl : Int) ∧ (L (LO tn).toNat).2 ≤ 131072 ∧ GoodL n (L (LO tn).toNat).2 (L (LO tn).toNat).1) :
    Calls Try.prog 40 #[.pointer (some ⟨hb, 0, none⟩), .int .i32 (tn : Int), .int .i32 d] w fun e w' => e = .returned (.tuple #[]) ∧
      Holder w' lo hb n (Pl.hstep d (LO tn) it L).1 nl (Pl.hstep d (LO tn) it L).2 nn LO ∧ Below lo w w' := by
  obtain ⟨ai, al, A, cp, bo, hh, hhb, hI, hL, hbo, ro⟩ := id hH
  by_cases hneg : LO tn < 0
  · refine (step_none hb nn bo tn _ _ d (LO tn) w htn hneg hh (ro.cell htn)).mono ?_
    rintro e w' ⟨rfl, rfl⟩
    have e1 : Pl.hstep d (LO tn) it L = (it, L) := by unfold Pl.hstep; rw [if_pos hneg]
    rw [e1]
    exact ⟨rfl, hH, Below.refl _ _⟩
  · obtain ⟨a, hat⟩ := Int.eq_ofNat_of_zero_le (show 0 ≤ LO tn by omega)
    obtain ⟨d1, d2, d3⟩ := hdom (by omega)
    have e1 : Pl.hstep d (LO tn) it L = ((run d it (L a).1 (L a).2).1, upd L a (run d it (L a).1 (L a).2).2) := by unfold Pl.hstep; rw [if_neg hneg, hat]; rfl
    rw [e1]
    rw [hat] at d1 d2 d3
    simp only [Int.toNat_natCast] at d2 d3
    have ha : a < nl := by omega
    rcases hL with ⟨_, h0⟩ | ⟨bl, hal, hbl, rl, each, inj⟩
    · omega
    subst hal
    by_cases hz : (L a).2 = 0
    · have hea := each a ha
      have c5 : w.cell? ⟨bl, a, none⟩ = some (.slice (A a) 0 (cp a)) := by rw [rl.cell ha]; unfold lv; simp only [hz]
      refine (step_empty hb bl bo nl nn tn a (cp a) (A a) ?_ _ d w htn ha hh (by rw [ro.cell htn]; unfold ncell; rw [hat]) c5 (rl.frozen a)).mono ?_
      · rcases hea with ⟨h1, _, h2⟩ | ⟨b, h1, _⟩
        · exact .inl ⟨h1, h2⟩
        · exact .inr ⟨b, h1⟩
      · rintro e w' ⟨rfl, rfl⟩
        rw [hz] at hea
        have := holder_store (it' := it) hlow hh hhb hbl rl each inj hbo ro (fun _ => False) (Chg.refl _ w) a ha (fun x hx => hx.elim) (fun x hx => hx.elim) hI (L a).1 0 hea
        rw [hz]
        exact ⟨rfl, this.1, this.2⟩
    · rcases hI with ⟨_, h0⟩ | ⟨bi, hai, hbi, ri⟩
      · have := d3 0 (by omega)
        omega
      subst hai
      rcases each a ha with ⟨_, h1, _⟩ | ⟨g, h1, h2, h3, h4⟩
      · exact absurd h1 hz
      · exact step_main hb bl bo bi g n nl nn tn a lo d it L LO A cp w htn hat ha d2 hlow hh hhb hbl rl each inj hbo ro hbi ri h1 h2 h3 h4 (fun j hj => ⟨(d3 j hj).1, (d3 j hj).2.1⟩)

/-- ZZHolderWaitsStep. -/
theorem zzstep_any (hb n nl nn tn lo : Nat) (d : Int) (it : Nat → I3) (L : Ls) (LO : Nat → Int) (w : World) (htn : tn < nn) (hlow : lo ≤ w.heap.size) (hH : Holder w lo hb n it nl L nn LO)
    (hdom : 0 ≤ LO tn → LO tn < (nl : Int) ∧ (L (LO tn).toNat).2 ≤ 131072 ∧ GoodL n (L (LO tn).toNat).2 (L (LO tn).toNat).1) :
    Calls Try.prog 27 #[.pointer (some ⟨hb, 0, none⟩), .int .i32 (tn : Int), .int .i32 d] w fun e w' => e = .returned (.tuple #[]) ∧
      Holder w' lo hb n (Pl.hstep d (LO tn) it L).1 nl (Pl.hstep d (LO tn) it L).2 nn LO ∧ Below lo w w' := by
  have hs := step_any hb n nl nn tn lo d it L LO w htn hlow hH hdom
  clear hH hdom
  go_enter Try.func27, Try.ntmps27
  go_wp2_with fail
  refine hs.mono ?_
  rintro e w' ⟨rfl, h1, h2⟩
  have HF : Hid (_ ∧ _) := And.intro h1 h2
  clear h1 h2 hs
  go_wp2
  go_end0
  exact ⟨rfl, HF.out.1, HF.out.2⟩

end Go.Proofs.Qxb6605516a
