/-
  Seat b6602804a (regroute): the walk of ldhModel.
-/
import Derived.Test.Qxb6602804aLdh
namespace Go.Proofs.Qxb6602804a
open Go.RowKit

theorem size_ext (s : ByteArray) (a b : Nat) (hb : b ≤ s.size) : (s.extract a b).size = b - a := by
  simp [ByteArray.size_extract]; omega

theorem fb_ext (s : ByteArray) (a b : Nat) (hb : b ≤ s.size) (i : Nat) (hi : i < b - a) : fb (s.extract a b) i = fb s (a + i) := by
  have h1 : i < (s.extract a b).size := by rw [size_ext s a b hb]; exact hi
  rw [← fb_get _ i h1, ← fb_get s (a + i) (by omega)]
  rw [ByteArray.getElem_extract]

/-- The label from a to b, cut out of the name. -/
theorem okL_ext (s : ByteArray) (a b : Nat) (hab : a ≤ b) (hb : b ≤ s.size) : OkL (fb (s.extract a b)) 0 (s.extract a b).size ↔ OkL (fb s) a b := by
  rw [size_ext s a b hb]
  exact okL_shift hab (fun i hi => fb_ext s a b hb i hi)

/-- What both functions answer. -/
def Named (s : ByteArray) : Prop := s.size ≤ 253 ∧ Good (fb s) s.size

set_option maxHeartbeats 1600000 in
theorem ldhModel_any (s : ByteArray) (w : World) (hs : s.size ≤ 1048576) :
    Calls Try.prog 14 #[.string s] w fun e w' => Ans e (Named s) ∧ w = w' := by
  by_cases hbig : 253 < s.size
  · go_enter Try.func14, Try.ntmps14
    go_wp2
    go_ret
    exact ⟨Ans.no (fun h => by have := h.1; omega), rfl⟩
  · go_enter Try.func14, Try.ntmps14
    go_wp2
    go_loop [3] (fun t => ∃ a : Nat, a ≤ s.size + 1 ∧ t = .int .i64 a ∧ Hid (Upto (fb s) s.size a)) (fun t => s.size + 1 - (intOf t).toNat)
    case atStart => exact ⟨0, Nat.zero_le _, rfl, Upto.start _ _⟩
    case round =>
      obtain ⟨a, ha, rfl, hu⟩ := hrel
      by_cases hle : a ≤ s.size
      · go_wp2
        go_loop [4] (fun t => ∃ b : Nat, a ≤ b ∧ b ≤ s.size ∧ t = .int .i64 b ∧ Hid (∀ i, a ≤ i → i < b → ¬ fb s i = 46)) (fun t => s.size - (intOf t).toNat)
        case atStart => exact ⟨a, Nat.le_refl _, hle, rfl, fun i h1 h2 => by omega⟩
        case round =>
          obtain ⟨b, hab, hbn, rfl, hpl⟩ := hrel
          have stop : Hid ((b = s.size ∨ fb s b = 46) → Piece (fb s) s.size a b) := fun hr => ⟨hab, hbn, hpl.out, by rcases hu.out.left with h | h | h <;> first | exact .inl h | exact .inr h | omega, hr⟩
          have good : Hid (Piece (fb s) s.size a b → OkL (fb s) a b → Upto (fb s) s.size (b + 1)) := fun hp ho => hu.out.next hp ho
          by_cases hlt : b < s.size
          · have ek := fb_get s b hlt
            have HY : Hid (¬ fb s b = 46 → ∀ i, a ≤ i → i < b + 1 → ¬ fb s i = 46) := by
              intro h i h1 h2
              by_cases e : i = b
              · subst e; exact h
              · exact hpl.out i h1 (by omega)
            generalize hv : fb s b = v at ek HY stop
            clear hv
            cases t : (v != 46)
            · have hp : Hid (Piece (fb s) s.size a b) := stop.out (.inr (by simpa using t))
              clear HY stop
              go_wp2_with fail
              refine (ldhLabel_any (s.extract a b) _ (by rw [size_ext s a b hbn]; omega)).mono ?_
              rintro e w' ⟨⟨r, rfl, hr⟩, rfl⟩
              rw [okL_ext s a b hab hbn] at hr
              have HR : Hid (r = true ↔ OkL (fb s) a b) := hr
              clear hr
              cases r
              · go_wp2
                go_ret
                exact ⟨Ans.no (fun h => by have := HR.out.2 (h.2 a b hp.out); cases this), rfl⟩
              · have hu2 : Hid (Upto (fb s) s.size (b + 1)) := good.out hp.out (HR.out.1 rfl)
                go_wp2
                go_round
                case rel => exact ⟨b + 1, by omega, by go_num, hu2⟩
                case measure => simp [intOf]; omega
            · have hnd : Hid (∀ i, a ≤ i → i < b + 1 → ¬ fb s i = 46) := HY.out (by simpa using t)
              clear HY stop
              go_wp2
              go_round
              case rel => exact ⟨b + 1, by omega, by omega, by go_num, hnd⟩
              case measure => simp [intOf]; omega
          · have hp : Hid (Piece (fb s) s.size a b) := stop.out (.inl (by omega))
            go_wp2_with fail
            refine (ldhLabel_any (s.extract a b) _ (by rw [size_ext s a b hbn]; omega)).mono ?_
            rintro e w' ⟨⟨r, rfl, hr⟩, rfl⟩
            rw [okL_ext s a b hab hbn] at hr
            have HR : Hid (r = true ↔ OkL (fb s) a b) := hr
            clear hr
            cases r
            · go_wp2
              go_ret
              exact ⟨Ans.no (fun h => by have := HR.out.2 (h.2 a b hp.out); cases this), rfl⟩
            · have hu2 : Hid (Upto (fb s) s.size (b + 1)) := good.out hp.out (HR.out.1 rfl)
              go_wp2
              go_round
              case rel => exact ⟨b + 1, by omega, by go_num, hu2⟩
              case measure => simp [intOf]; omega
      · have hg : Hid (Good (fb s) s.size) := hu.out.good (by omega)
        go_wp2
        go_ret
        exact ⟨Ans.yes ⟨by omega, hg.out⟩, rfl⟩
end Go.Proofs.Qxb6602804a
