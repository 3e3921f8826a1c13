/-
  Seat b6002668a (flumeward): the walks of stringEnd and valueEnd.
-/
import Derived.Test.Qxb6002668aOwn
namespace Go.Proofs.Qxb6002668a
open Go.RowKit

theorem ret_int {k : IntKind} {a b : Int} (h : a = b) : Ending.returned (.int k a) = .returned (.int k b) := by rw [h]

/-- stringEnd, called at a container's opening quote: just past the closing one. -/
theorem stringEnd_any (g n cap p : Nat) (R : List Int) (j0 d : Nat) (w : World) (hn : n ≤ 1073741824) (hR : Closed R) (hp : p + R.length ≤ n)
    (hc : ∀ j, p ≤ j → j < p + R.length → w.cell? ⟨g, j, none⟩ = some (.int .u8 (R.getD (j - p) 0))) (hat : At R p (j0 + 1) 1 d) :
    Calls Try.prog 33 #[.slice (some ⟨g, 0, none⟩) n cap, .int .i64 (j0 : Int)] w fun e w' => w' = w ∧ ∃ q : Nat, e = .returned (.int .i64 (q : Int)) ∧ j0 < q ∧ q ≤ n ∧ At R p q 0 d := by
  have hl0 := hat.lt hR
  go_enter Try.func33, Try.ntmps33
  go_wp2
  go_loop [1] (fun i => ∃ j : Nat, i = .int .i64 j ∧ j0 < j ∧ At R p j 1 d) (fun i => n - (intOf i).toNat)
  case atStart => exact ⟨j0 + 1, by go_num, by omega, hat⟩
  case round =>
    obtain ⟨j, rfl, hj, ha⟩ := hrel
    have hl := ha.lt hR
    have hcx := hc j hl.1 hl.2
    have H1 := ha.strEnd hR
    have H2 := ha.strIn hR
    have H3 := ha.strBack hR
    clear hc hat
    generalize R.getD (j - p) 0 = v at hcx H1 H2 H3
    by_cases h34 : v = 34
    · subst h34
      have HE : Hid (At R p (j + 1) 0 d) := H1 rfl
      clear H1 H2 H3
      go_wp2
      go_ret
      exact ⟨rfl, j + 1, by go_num, by omega, by omega, HE.out⟩
    · by_cases h92 : v = 92
      · subst h92
        have HE : Hid (At R p (j + 2) 1 d) := H3 rfl
        clear H1 H2 H3
        have hl2 := HE.out.lt hR
        go_wp2
        go_round
        case rel => exact ⟨j + 2, by go_num, by omega, HE.out⟩
        case measure => simp [intOf]; omega
      · have HE : Hid (At R p (j + 1) 1 d) := H2 h34 h92
        clear H1 H2 H3
        go_wp2
        go_round
        case rel => exact ⟨j + 1, by go_num, by omega, HE.out⟩
        case measure => simp [intOf]; omega

set_option maxHeartbeats 1600000 in
/-- valueEnd, called at a container's opening bracket: just past its closing one. -/
theorem valueEnd_box (g n cap p : Nat) (R : List Int) (w : World) (hn : n ≤ 1073741824) (hR : Closed R) (hp : p + R.length ≤ n)
    (hc : ∀ j, p ≤ j → j < p + R.length → w.cell? ⟨g, j, none⟩ = some (.int .u8 (R.getD (j - p) 0))) :
    Calls Try.prog 31 #[.slice (some ⟨g, 0, none⟩) n cap, .int .i64 (p : Int)] w fun e w' => w' = w ∧ e = .returned (.int .i64 ((p + R.length : Nat) : Int)) := by
  have h2 := hR.two
  have hc0 := hc p (Nat.le_refl _) (by omega)
  have hh := hR.head
  rw [Nat.sub_self] at hc0
  generalize R.getD 0 0 = v0 at hc0 hh
  have HC : Hid (∀ j, p ≤ j → j < p + R.length → w.cell? ⟨g, j, none⟩ = some (.int .u8 (R.getD (j - p) 0))) := hc
  clear hc
  rcases hh with rfl | rfl
  all_goals
    go_enter Try.func31, Try.ntmps31
    go_wp2_with fail
    clear hc0
    go_loop [1, 5] (fun i t => ∃ j d : Nat, i = .int .i64 j ∧ t = .int .i64 d ∧ At R p j 0 d) (fun i _ => n - (intOf i).toNat)
    case atStart => exact ⟨p, 0, rfl, rfl, At.start R p⟩
    case round =>
      obtain ⟨j, d, rfl, rfl, ha⟩ := hrel
      have hl := ha.lt hR
      have hdep := ha.depth
      have hcx := HC.out j hl.1 hl.2
      have H1 := ha.quote hR
      have H2 := ha.opens hR
      have H3 := ha.shuts hR
      have H4 := ha.ends hR
      have H5 := ha.other hR
      generalize R.getD (j - p) 0 = v at hcx H1 H2 H3 H4 H5
      by_cases h34 : v = 34
      · subst h34
        have HE : At R p (j + 1) 1 d := H1 rfl
        clear H1 H2 H3 H4 H5 ha
        go_wp2_with (go_at_call 33; refine (stringEnd_any g n cap p R j d _ hn hR hp HC.out HE).mono ?_; rintro e w' ⟨rfl, q, rfl, hq1, hq2, hq⟩)
        go_round
        case rel => exact ⟨q, d, by go_num, rfl, hq⟩
        case measure => simp [intOf]; omega
      · clear H1
        by_cases hop : v = 123 ∨ v = 91
        · have HE : Hid (At R p (j + 1) 0 (d + 1)) := H2 hop
          clear H2 H3 H4 H5 ha h34
          rcases hop with rfl | rfl
          all_goals
            go_wp2_with fail
            go_round
            case rel => exact ⟨j + 1, d + 1, by go_num, by go_num, HE.out⟩
            case measure => simp [intOf]; omega
        · by_cases hsh : v = 125 ∨ v = 93
          · by_cases hd : d ≤ 1
            · have hen := H4 hsh hd
              obtain ⟨he1, rfl⟩ := hen
              have HE : Hid (j + 1 = p + R.length) := he1
              clear H2 H3 H4 H5 ha h34 hop he1
              rcases hsh with rfl | rfl
              all_goals
                go_wp2_with fail
                go_ret
                exact ⟨rfl, ret_int (by have := HE.out; omega)⟩
            · have HE : Hid (At R p (j + 1) 0 (d - 1)) := H3 hsh (by omega)
              clear H2 H3 H4 H5 ha h34 hop
              rcases hsh with rfl | rfl
              all_goals
                go_wp2_with fail
                go_round
                case rel => exact ⟨j + 1, d - 1, by go_num, by go_num, HE.out⟩
                case measure => simp [intOf]; omega
          · have HE : Hid (At R p (j + 1) 0 d) := H5 h34 hop hsh
            clear H2 H3 H4 H5 ha
            have n1 : ¬ v = 123 := fun e => hop (.inl e)
            have n2 : ¬ v = 91 := fun e => hop (.inr e)
            have n3 : ¬ v = 125 := fun e => hsh (.inl e)
            have n4 : ¬ v = 93 := fun e => hsh (.inr e)
            clear hop hsh
            go_wp2_with fail
            go_round
            case rel => exact ⟨j + 1, d, by go_num, rfl, HE.out⟩
            case measure => simp [intOf]; omega
end Go.Proofs.Qxb6002668a
