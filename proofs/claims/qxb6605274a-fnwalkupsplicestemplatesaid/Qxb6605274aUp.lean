import Derived.Test.Qxb6605274aRows
import Derived.Test.Qxb6605274aPlain
import Derived.WalkKit
import Derived.WalkSpells
import Derived.WalkLawsBesides
namespace Go.Proofs.Qxb6605274a
open Go.RowKit

set_option maxHeartbeats 400000 in
set_option maxRecDepth 100000 in
theorem walkUp_any (t s g : ByteArray) (w : World) (ht : t.size ≤ 1048576) (hs : s.size ≤ 1048576) (hg : g.size ≤ 1048576) :
    Calls Try.prog 22 #[.string t, .string s, .string g] w fun e w' => e = .returned (.string (Pl.fill t s g)) ∧ w' = w := by
  go_enter Try.func22, Try.ntmps22
  go_wp2
  go_ret
  exact ⟨rfl, rfl⟩

theorem zzUp_any (t s g : ByteArray) (w : World) (ht : t.size ≤ 1048576) (hs : s.size ≤ 1048576) (hg : g.size ≤ 1048576) :
    Calls Try.prog 11 #[.string t, .string s, .string g] w fun e w' => e = .returned (.string (Pl.fill t s g)) ∧ w' = w := by
  go_enter Try.func11, Try.ntmps11
  go_wp2_with fail
  refine (walkUp_any t s g w ht hs hg).mono ?_
  rintro e w' ⟨rfl, hw⟩
  obtain rfl := hw.symm
  go_wp2
  go_ret
  exact ⟨rfl, rfl⟩

end Go.Proofs.Qxb6605274a
