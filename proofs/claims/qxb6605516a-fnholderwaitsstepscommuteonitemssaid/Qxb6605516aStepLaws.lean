import Derived.Test.Qxb6605516aHolder
namespace Go.Proofs.Qxb6605516a
open Go.RowKit Go.Deep
open Pl (I3 E2 Ls upd upd_same upd_other)

/-- 'kept = append(kept, e)' within the capacity, e of two int32 cells: the row's next entry is written, nothing else turns. -/
theorem wpList_append_pair {P : Program} (w : World) {ops : Array Oper} {rest : List Oper} {o : Oper} {a : Act} {Q : Exit → Act → World → Prop}
    (hg : o.guard = none) (s x : Operand) (t : TypeId) (hop : o.op = Op.call { callee := Callee.builtin Builtin.append, args := #[s, x], argTypes := #[t, t] })
    (e : TypeId) (i : TypeInfo) (h1 : P.underlying t = some (.slice e)) (h2 : P.info? e = some i) (h4 : i.size = 2)
    (g k cap : Nat) (G : Nat → E2) (hs : a.eval s = .slice (some ⟨g, 0, none⟩) k cap) (hrow : w.rowIs g e (cap * 2) (ecell G)) (hk : k < cap)
    (ad : Addr) (c : Nat) (p : E2) (hx : a.eval x = .slice (some ad) 1 c) (hc0 : w.cell? ad = some (.int .i32 p.1)) (hc1 : w.cell? (ad.add 1) = some (.int .i32 p.2))
    (hK : ∀ w', w'.rowIs g e (cap * 2) (ecell (upd G k p)) → Chg (fun b => b = g) w w' → w'.heap.size = w.heap.size → wpList P ops Q rest (a.put o.dst (.slice (some ⟨g, 0, none⟩) (k + 1) cap)) w') :
    wpList P ops Q (o :: rest) a w := by
  refine wpList_plain hg fun K hK' => ?_
  obtain ⟨cur, hgc, hcs, hcc⟩ := hrow
  have hnews : ∀ j u, [Value.int .i32 p.1, Value.int .i32 p.2][j]? = some u → w.cell? (ad.add j) = some u := by
    intro j u hu
    match j, hu with
    | 0, hu => simp at hu; subst hu; simpa [Addr.add] using hc0
    | 1, hu => simp at hu; subst hu; exact hc1
    | j + 2, hu => simp at hu
  have h1c : ∀ u ∈ [Value.int .i32 p.1, Value.int .i32 p.2], u.oneCell' = true := by
    intro u hu
    simp at hu
    rcases hu with rfl | rfl <;> rfl
  have hr := run_append_room (P := P) w t o.type e i h1 h2 g k cap cur hgc ad 1 c [.int .i32 p.1, .int .i32 p.2] (by rw [h4]; rfl) hnews h1c (by omega) (by rw [h4, hcs]; simp only [List.length_cons, List.length_nil]; omega)
  rw [h4] at hr
  obtain ⟨w', hw'⟩ : ∃ w', w.setRow g (cur.toList.take (k * 2) ++ [Value.int .i32 p.1, Value.int .i32 p.2] ++ cur.toList.drop (k * 2 + [Value.int .i32 p.1, Value.int .i32 p.2].length)).toArray = w' := ⟨_, rfl⟩
  have hrow' : w'.rowIs g e (cap * 2) (ecell (upd G k p)) := by
    refine ⟨_, by rw [← hw']; exact setRow_heap w g cur _ e _ hgc, ?_, fun j hj => ?_⟩
    · simp only [List.size_toArray, List.length_append, List.length_take, List.length_drop, Array.length_toList, List.length_cons, List.length_nil]
      omega
    · rw [ecell_upd, List.getElem?_toArray]
      have hcur : ∀ j, j < cap * 2 → cur.toList[j]? = some (ecell G j) := fun j hj => by rw [Array.getElem?_toList]; exact hcc j hj
      have hlt : (cur.toList.take (k * 2)).length = k * 2 := by rw [List.length_take, Array.length_toList]; omega
      by_cases l : j < k * 2
      · rw [if_neg (by omega), if_neg (by omega), List.append_assoc, List.getElem?_append_left (by omega), List.getElem?_take, if_pos l]
        exact hcur j hj
      · by_cases e0 : j = k * 2
        · rw [if_pos e0, List.append_assoc, List.getElem?_append_right (by omega), hlt, e0, Nat.sub_self]; rfl
        · by_cases e1 : j = k * 2 + 1
          · rw [if_neg e0, if_pos e1, List.append_assoc, List.getElem?_append_right (by omega), hlt, e1, show k * 2 + 1 - k * 2 = 1 by omega]; rfl
          · rw [if_neg e0, if_neg e1, List.getElem?_append_right (by rw [List.length_append, hlt]; simp only [List.length_cons, List.length_nil]; omega), List.length_append, hlt, List.getElem?_drop]
            simp only [List.length_cons, List.length_nil]
            rw [show k * 2 + (0 + 1 + 1) + (j - (k * 2 + (0 + 1 + 1))) = j by omega]
            exact hcur j hj
  have hchg : Chg (fun b => b = g) w w' := by
    rw [← hw']
    exact ⟨rfl, rfl, rfl, by simp, fun b _ hb => setRow_other w g b _ hb⟩
  have hsz : w'.heap.size = w.heap.size := by rw [← hw']; simp
  rw [hw'] at hr
  unfold Oper.wp
  simp [execOp, hop, resolve, invoke, builtin, hs, hx, hr, Result.andThen]
  exact hK' _ _ (hK w' hrow' hchg hsz)

/-- The holder, behind a step over the list at place a: what the loop left, and the list's slice stored back. -/
theorem holder_store {w wf : World} {lo hb n nl nn bl bo : Nat} {it' : Nat → I3} {L : Ls} {LO : Nat → Int} {ai : Option Addr} {A : Nat → Option Addr} {cp : Nat → Nat}
    (hlow : lo ≤ w.heap.size) (hh : w.rowIs hb 104 7 (hcell (.slice ai n n) (.slice (some ⟨bl, 0, none⟩) nl nl) (.slice (some ⟨bo, 0, none⟩) nn nn))) (hhb : lo ≤ hb) (hbl : lo ≤ bl)
    (rl : w.rowIs bl 107 nl (lv A (fun j => (L j).2) cp)) (each : ∀ j, j < nl → OwnR w 109 2 lo (A j) (L j).2 (cp j) (ecell (L j).1))
    (inj : ∀ i j, i < nl → j < nl → A i = A j → A i ≠ none → i = j) (hbo : lo ≤ bo) (ro : w.rowIs bo 21 nn (ncell LO))
    (Z : Nat → Prop) (hch : Chg Z w wf) (a : Nat) (ha : a < nl) (hZ : ∀ x, Z x → A a = some ⟨x, 0, none⟩ ∨ ∃ N f, w.rowIs x 106 N f) (hZlo : ∀ x, Z x → lo ≤ x)
    (hI : OwnI wf 106 lo ai n it') (G' : Nat → E2) (m' : Nat) (hE : OwnR wf 109 2 lo (A a) m' (cp a) (ecell G')) :
    Holder (wf.setCell ⟨bl, a, none⟩ (.slice (A a) m' (cp a))) lo hb n it' nl (upd L a (G', m')) nn LO ∧ Below lo w (wf.setCell ⟨bl, a, none⟩ (.slice (A a) m' (cp a))) := by
  have inner : ∀ x, A a = some ⟨x, 0, none⟩ → ∃ N f, w.rowIs x 109 N f := fun x hx => by
    rcases each a ha with ⟨h, _⟩ | ⟨b, h1, _, _, h4⟩
    · rw [h] at hx; exact absurd hx (by simp)
    · rw [h1] at hx
      simp only [Option.some.injEq, Addr.mk.injEq, and_true] at hx
      subst hx
      exact ⟨_, _, h4⟩
  have far : ∀ {b m : Nat} {t : TypeId} {f : Nat → Value}, w.rowIs b t m f → t ≠ 106 → t ≠ 109 → ¬ Z b := fun hr h1 h2 hz => by
    rcases hZ _ hz with h | ⟨N, f', h⟩
    · obtain ⟨N, f', h'⟩ := inner _ h
      exact row_ne hr h' h2 rfl
    · exact row_ne hr h h1 rfl
  have rl' := hch.row rl (far rl (by decide) (by decide))
  have hh' := hch.row hh (far hh (by decide) (by decide))
  have ro' := hch.row ro (far ro (by decide) (by decide))
  refine ⟨⟨ai, some ⟨bl, 0, none⟩, A, cp, bo, hh'.setOther (row_ne hh' rl' (by decide)) _, hhb, ?_, .inr ⟨bl, rfl, hbl, ?_, ?_, inj⟩, hbo, ro'.setOther (row_ne ro' rl' (by decide)) _⟩, ?_⟩
  · rcases hI with h | ⟨b, h1, h2, h3⟩
    · exact .inl h
    · exact .inr ⟨b, h1, h2, h3.setOther (row_ne h3 rl' (by decide)) _⟩
  · refine (rl'.set a _).congr fun j _ => ?_
    unfold lv
    by_cases e : j = a
    · subst e; rw [if_pos rfl]; simp only [upd_same]
    · rw [if_neg e]; simp only [upd_other _ _ _ _ e]
  · intro j hj
    by_cases e : j = a
    · subst e
      rw [upd_same]
      rcases hE with h | ⟨b, h1, h2, h3, h4⟩
      · exact .inl h
      · exact .inr ⟨b, h1, h2, h3, h4.setOther (row_ne h4 rl' (by decide)) _⟩
    · rw [upd_other _ _ _ _ e]
      rcases each j hj with h | ⟨b, h1, h2, h3, h4⟩
      · exact .inl h
      · have hnz : ¬ Z b := fun hz => by
          rcases hZ b hz with h | ⟨N, f', h⟩
          · exact e (inj j a hj ha (by rw [h1, h]) (by rw [h1]; simp))
          · exact row_ne h4 h (by decide) rfl
        have h4' := hch.row h4 hnz
        exact .inr ⟨b, h1, h2, h3, h4'.setOther (row_ne h4' rl' (by decide)) _⟩
  · exact (hch.below hZlo hlow).setCell (p := ⟨bl, a, none⟩) hbl _

end Go.Proofs.Qxb6605516a
