/-
  Seat b6602804a (regroute): the walk of FnIsLDHNameMatchesLabelModel, out of the two contracts.
-/
import Derived.Test.Qxb6602804aName
namespace Go.Proofs.Qxb6602804a
open Go.RowKit

theorem zzisLDHName_any (s : ByteArray) (w : World) (hs : s.size ≤ 1048576) :
    Calls Try.prog 13 #[.string s] w fun e w' => Ans e (Named s) ∧ w = w' := by
  go_enter Try.func13, Try.ntmps13
  go_wp2_with fail
  refine (isLDHName_any s _ hs).mono ?_
  rintro e w' ⟨⟨r, rfl, hr⟩, rfl⟩
  have HR : Hid (r = true ↔ Named s) := hr
  clear hr
  go_wp2
  go_ret
  exact ⟨⟨r, rfl, HR.out⟩, rfl⟩

theorem walk_name (s : ByteArray) (hm : s.size ≤ maxLen) (w : World) :
    Calls Try.prog 5 #[.string s] w fun e w' => e = .returned (.bool true) ∧ Grown w w' := by
  unfold maxLen at hm
  by_cases hs : s.size ≤ 1048576
  · go_enter Try.func5, Try.ntmps5
    go_wp2_with (go_at_call 12; go_in)
    refine (zzisLDHName_any s _ hs).mono ?_
    rintro e w' ⟨⟨r1, rfl, h1⟩, rfl⟩
    have H1 : Hid (r1 = true ↔ Named s) := h1
    clear h1
    go_wp2_with fail
    refine (ldhModel_any s _ hs).mono ?_
    rintro e w' ⟨⟨r2, rfl, h2⟩, rfl⟩
    have e : r1 = r2 := by
      have h := H1.out.trans h2.symm
      cases r1 <;> cases r2 <;> simp_all
    subst e
    clear h2 H1
    go_wp2
    go_ret
    exact ⟨by simp, Grown.refl _⟩
  · go_enter Try.func5, Try.ntmps5
    go_wp2
    go_ret
    exact ⟨rfl, Grown.refl _⟩

end Go.Proofs.Qxb6602804a
