/-
  THE PLAIN SIDE OF SEAT b6605274a: the template's four parts as lists of bytes, and what the filled text is. No program in sight.
-/
import Derived.Lib.Strings
namespace Go.Proofs.Qxb6605274a.Pl

/-- The template's part 1. -/
def l1 : List UInt8 := [32, 40, 115, 116, 97, 114, 116, 44, 32, 105, 100, 44, 32, 112, 97, 114, 101, 110, 116, 95, 105, 100, 44, 32, 111, 119, 110, 101, 114, 95, 105, 100, 44, 32, 116, 114, 97, 115, 104, 101, 100, 95, 97, 116, 41, 32, 65, 83, 32, 40, 10, 9, 9, 83, 69, 76, 69, 67, 84, 32, 105, 100, 44, 32, 105, 100, 44, 32, 112, 97, 114, 101, 110, 116, 95, 105, 100, 44, 32, 111, 119, 110, 101, 114, 95, 105, 100, 44, 32, 116, 114, 97, 115, 104, 101, 100, 95, 97, 116, 32, 70, 82, 79, 77, 32, 105, 116, 101, 109, 115, 32, 87, 72, 69, 82, 69, 32]
/-- The template's part 2. -/
def l2 : List UInt8 := [10, 9, 9, 85, 78, 73, 79, 78, 10, 9, 9, 83, 69, 76, 69, 67, 84, 32, 101, 46, 115, 116, 97, 114, 116, 44, 32, 112, 46, 105, 100, 44, 32, 112, 46, 112, 97, 114, 101, 110, 116, 95, 105, 100, 44, 32, 112, 46, 111, 119, 110, 101, 114, 95, 105, 100, 44, 32, 112, 46, 116, 114, 97, 115, 104, 101, 100, 95, 97, 116, 32, 70, 82, 79, 77, 32]
/-- The template's part 3. -/
def l3 : List UInt8 := [32, 101, 32, 67, 82, 79, 83, 83, 32, 74, 79, 73, 78, 32, 76, 65, 84, 69, 82, 65, 76, 32, 40, 10, 9, 9, 9, 83, 69, 76, 69, 67, 84, 32, 105, 46, 105, 100, 44, 32, 105, 46, 112, 97, 114, 101, 110, 116, 95, 105, 100, 44, 32, 105, 46, 111, 119, 110, 101, 114, 95, 105, 100, 44, 32, 105, 46, 116, 114, 97, 115, 104, 101, 100, 95, 97, 116, 32, 70, 82, 79, 77, 32, 105, 116, 101, 109, 115, 32, 105, 32, 87, 72, 69, 82, 69, 32, 105, 46, 105, 100, 32, 61, 32, 101, 46, 112, 97, 114, 101, 110, 116, 95, 105, 100, 32, 76, 73, 77, 73, 84, 32, 49, 10, 9, 9, 41, 32, 112, 32, 87, 72, 69, 82, 69, 32]
/-- The template's part 4. -/
def l4 : List UInt8 := [10, 9, 41]

def b1 : ByteArray := ⟨l1.toArray⟩
def b2 : ByteArray := ⟨l2.toArray⟩
def b3 : ByteArray := ⟨l3.toArray⟩
def b4 : ByteArray := ⟨l4.toArray⟩

/-- What walkUp hands back. -/
def fill (t s g : ByteArray) : ByteArray := t ++ b1 ++ s ++ b2 ++ t ++ b3 ++ g ++ b4

set_option maxRecDepth 10000 in
theorem size1 : b1.size = 117 := rfl
set_option maxRecDepth 10000 in
theorem size2 : b2.size = 76 := rfl
set_option maxRecDepth 10000 in
theorem size3 : b3.size = 136 := rfl
theorem size4 : b4.size = 3 := rfl

theorem fill_size (t s g : ByteArray) : (fill t s g).size = 332 + 2 * t.size + s.size + g.size := by
  simp only [fill, ByteArray.size_append, size1, size2, size3, size4]; omega

/-- A text stands where it was put. -/
theorem occ (pre sub post r : ByteArray) (p : Nat) (hr : r = (pre ++ sub) ++ post) (hp : p = pre.size) (x : Nat) (h : x < sub.size) (h2 : p + x < r.size) : r[p + x] = sub[x] := by
  subst hr hp
  rw [ByteArray.getElem_append_left (by rw [ByteArray.size_append]; omega), ByteArray.getElem_append_right (by omega)]
  congr 1
  omega

theorem occ0 (t s g : ByteArray) (x : Nat) (h : x < t.size) (h2 : 0 + x < (fill t s g).size) : (fill t s g)[0 + x] = t[x] :=
  occ ByteArray.empty t (b1 ++ s ++ b2 ++ t ++ b3 ++ g ++ b4) _ _ (by simp [fill, ByteArray.append_assoc]) rfl x h h2
theorem occ1 (t s g : ByteArray) (x : Nat) (h : x < s.size) (h2 : t.size + 117 + x < (fill t s g).size) : (fill t s g)[t.size + 117 + x] = s[x] :=
  occ (t ++ b1) s (b2 ++ t ++ b3 ++ g ++ b4) _ _ (by simp [fill, ByteArray.append_assoc]) (by simp only [ByteArray.size_append, size1]) x h h2
theorem occ2 (t s g : ByteArray) (x : Nat) (h : x < t.size) (h2 : t.size + s.size + 193 + x < (fill t s g).size) : (fill t s g)[t.size + s.size + 193 + x] = t[x] :=
  occ (t ++ b1 ++ s ++ b2) t (b3 ++ g ++ b4) _ _ (by simp [fill, ByteArray.append_assoc]) (by simp only [ByteArray.size_append, size1, size2]; omega) x h h2
theorem occ3 (t s g : ByteArray) (x : Nat) (h : x < g.size) (h2 : t.size + t.size + s.size + 329 + x < (fill t s g).size) : (fill t s g)[t.size + t.size + s.size + 329 + x] = g[x] :=
  occ (t ++ b1 ++ s ++ b2 ++ t ++ b3) g b4 _ _ (by simp [fill]) (by simp only [ByteArray.size_append, size1, size2, size3]; omega) x h h2

/-- It closes with a parenthesis. -/
theorem fill_last (t s g r : ByteArray) (hr : fill t s g = r) (i : Nat) (h : i < r.size) (hi : i + 1 = r.size) : r[i] = 41 := by
  subst hr
  have hs := fill_size t s g
  simp only [fill] at h hi hs ⊢
  rw [ByteArray.getElem_append_right (by simp only [ByteArray.size_append, size1, size2, size3]; omega)]
  have e : i - (t ++ b1 ++ s ++ b2 ++ t ++ b3 ++ g).size = 2 := by simp only [ByteArray.size_append, size1, size2, size3, size4] at hi ⊢; omega
  simp only [e]
  rfl

end Go.Proofs.Qxb6605274a.Pl
