/-
  Seat b6002668a (flumeward): the walk of valueEnd at a scalar token.
-/
import Derived.Test.Qxb6002668aEnd
namespace Go.Proofs.Qxb6002668a
open Go.RowKit

/-- The bytes that end a scalar. -/
def Delim (c : Int) : Prop := c = 44 ∨ c = 93 ∨ c = 125 ∨ c = 32 ∨ c = 9 ∨ c = 10 ∨ c = 13

set_option maxHeartbeats 1600000 in
/-- valueEnd, called at a scalar token's first byte: the token's end. -/
theorem valueEnd_tok (g n cap p : Nat) (T : List Int) (w : World) (hn : n ≤ 1073741824) (ht : 0 < T.length) (hp : p + T.length ≤ n)
    (hc : ∀ j, p ≤ j → j < p + T.length → w.cell? ⟨g, j, none⟩ = some (.int .u8 (T.getD (j - p) 0)))
    (h1 : ¬ T.getD 0 0 = 34) (h2 : ¬ T.getD 0 0 = 123) (h3 : ¬ T.getD 0 0 = 91) (hd : ∀ k, k < T.length → ¬ Delim (T.getD k 0))
    (he : p + T.length = n ∨ ∃ c, p + T.length < n ∧ w.cell? ⟨g, p + T.length, none⟩ = some (.int .u8 c) ∧ Delim c) :
    Calls Try.prog 31 #[.slice (some ⟨g, 0, none⟩) n cap, .int .i64 (p : Int)] w fun e w' => w' = w ∧ e = .returned (.int .i64 ((p + T.length : Nat) : Int)) := by
  have hc0 := hc p (Nat.le_refl _) (by omega)
  rw [Nat.sub_self] at hc0
  generalize T.getD 0 0 = v0 at hc0 h1 h2 h3
  have HC : Hid (∀ j, p ≤ j → j < p + T.length → w.cell? ⟨g, j, none⟩ = some (.int .u8 (T.getD (j - p) 0))) := hc
  have HD : Hid (∀ k, k < T.length → ¬ Delim (T.getD k 0)) := hd
  have HE : Hid (p + T.length = n ∨ ∃ c, p + T.length < n ∧ w.cell? ⟨g, p + T.length, none⟩ = some (.int .u8 c) ∧ Delim c) := he
  clear hc hd he
  go_enter Try.func31, Try.ntmps31
  go_wp2_with fail
  clear hc0 h1 h2 h3
  go_loop [1] (fun i => ∃ j : Nat, i = .int .i64 j ∧ p ≤ j ∧ j ≤ p + T.length) (fun i => n - (intOf i).toNat)
  case atStart => exact ⟨p, rfl, Nat.le_refl _, by omega⟩
  case round =>
    obtain ⟨j, rfl, hj1, hj2⟩ := hrel
    by_cases hlt : j < p + T.length
    · have hcx := HC.out j hj1 hlt
      have hnd := HD.out (j - p) (by omega)
      generalize T.getD (j - p) 0 = v at hcx hnd
      unfold Delim at hnd
      have n1 : ¬ v = 44 := by omega
      have n2 : ¬ v = 93 := by omega
      have n3 : ¬ v = 125 := by omega
      have n4 : ¬ v = 32 := by omega
      have n5 : ¬ v = 9 := by omega
      have n6 : ¬ v = 10 := by omega
      have n7 : ¬ v = 13 := by omega
      clear hnd
      go_wp2
      go_round
      case rel => exact ⟨j + 1, by go_num, by omega, by omega⟩
      case measure => simp [intOf]; omega
    · have hje : Hid (j = p + T.length) := by show _ = _; omega
      rcases HE.out with he | ⟨c, hlt2, hcx, hdl⟩
      · have hge : ¬ j < n := by omega
        clear he
        go_wp2
        go_ret
        exact ⟨rfl, ret_int (by have := hje.out; omega)⟩
      · rw [← hje.out] at hcx
        have hjn : j < n := by omega
        unfold Delim at hdl
        rcases hdl with rfl | rfl | rfl | rfl | rfl | rfl | rfl
        all_goals
          go_wp2
          go_ret
          exact ⟨rfl, ret_int (by have := hje.out; omega)⟩

end Go.Proofs.Qxb6002668a
