/-
  Seat b6602804a (regroute): the walks of isLDHOrDot and ldhLabel.
-/
import Derived.Test.Qxb6602804aRows
import Derived.Test.Qxb6602804aLdhPlain
import Derived.WalkKit
import Derived.WalkSpells
import Derived.ProofKit
import Derived.Below
namespace Go.Proofs.Qxb6602804a
open Go.RowKit

/-- The bytes of a string, by their place. -/
def fb (s : ByteArray) (i : Nat) : Int := ((s.data.toList.getD i 0).toNat : Int)

theorem fb_get (s : ByteArray) (i : Nat) (h : i < s.size) : (s[i].toNat : Int) = fb s i := by
  unfold fb
  have : s.data.toList.getD i 0 = s[i] := by
    have h' : i < s.data.toList.length := by simpa using h
    rw [List.getD, List.getElem?_eq_getElem h']
    rfl
  rw [this]

theorem fb_bd (s : ByteArray) (i : Nat) : 0 ≤ fb s i ∧ fb s i ≤ 255 := by
  unfold fb
  have := (s.data.toList.getD i 0).toNat_lt
  omega

theorem ldh_yes (c : Int) (w : World) (h : Ldh c) : Calls Try.prog 19 #[.int .i32 c] w fun e w' => e = .returned (.bool true) ∧ w = w' := by
  unfold Ldh at h
  rcases h with ⟨h1, h2⟩ | ⟨h1, h2⟩ | rfl
  · go_enter Try.func19, Try.ntmps19
    go_wp2
    go_ret
    exact ⟨rfl, rfl⟩
  · have n1 : c < 97 := by omega
    go_enter Try.func19, Try.ntmps19
    go_wp2
    go_ret
    exact ⟨rfl, rfl⟩
  · go_enter Try.func19, Try.ntmps19
    go_wp2
    go_ret
    exact ⟨rfl, rfl⟩

theorem ldh_no (c : Int) (w : World) (h : ¬ Ldh c) (hd : ¬ c = 46) : Calls Try.prog 19 #[.int .i32 c] w fun e w' => e = .returned (.bool false) ∧ w = w' := by
  unfold Ldh at h
  have t1 : (c == 45) = false := by simp; omega
  have t2 : (c == 46) = false := by simpa using hd
  have hx : c < 48 ∨ (57 < c ∧ c < 97) ∨ 122 < c := by omega
  clear h hd
  rcases hx with h1 | ⟨h1, h2⟩ | h1
  · go_enter Try.func19, Try.ntmps19
    go_wp2
    go_ret
    exact ⟨rfl, rfl⟩
  · have d1 : decide (c ≤ 57) = false := decide_eq_false (by omega)
    go_enter Try.func19, Try.ntmps19
    go_wp2
    go_ret
    exact ⟨rfl, rfl⟩
  · have d1 : decide (c ≤ 57) = false := decide_eq_false (by omega)
    have d2 : decide (c ≤ 122) = false := decide_eq_false (by omega)
    go_enter Try.func19, Try.ntmps19
    go_wp2
    go_ret
    exact ⟨rfl, rfl⟩

/-- The call has returned the truth of p. -/
def Ans (e : Ending) (p : Prop) : Prop := ∃ r, e = .returned (.bool r) ∧ (r = true ↔ p)
theorem Ans.yes {p : Prop} (h : p) : Ans (.returned (.bool true)) p := ⟨true, rfl, by simp [h]⟩
theorem Ans.no {p : Prop} (h : ¬ p) : Ans (.returned (.bool false)) p := ⟨false, rfl, by simp [h]⟩

set_option maxHeartbeats 1600000 in
/-- ldhLabel: is the whole string a label in order? -/
theorem ldhLabel_any (l : ByteArray) (w : World) (hl : l.size ≤ 253) :
    Calls Try.prog 18 #[.string l] w fun e w' => Ans e (OkL (fb l) 0 l.size) ∧ w = w' := by
  by_cases h0 : l.size < 1
  · go_enter Try.func18, Try.ntmps18
    go_wp2
    go_ret
    exact ⟨Ans.no (by intro o; have := o.some; omega), rfl⟩
  · by_cases h63 : 63 < l.size
    · go_enter Try.func18, Try.ntmps18
      go_wp2
      go_ret
      exact ⟨Ans.no (by intro o; have := o.short; omega), rfl⟩
    · have e0 := fb_get l 0 (by omega)
      have en := fb_get l (l.size - 1) (by omega)
      generalize hv0 : fb l 0 = v0 at e0
      generalize hvn : fb l (l.size - 1) = vn at en
      have HV0 : Hid (fb l 0 = v0) := hv0
      have HVN : Hid (fb l (l.size - 1) = vn) := hvn
      clear hv0 hvn
      cases t1 : (v0 == 45)
      · cases t2 : (vn == 45)
        · have n0 : ¬ fb l 0 = 45 := by rw [HV0.out]; simpa using t1
          have nn : ¬ fb l (l.size - 1) = 45 := by rw [HVN.out]; simpa using t2
          have HN : Hid (¬ fb l 0 = 45 ∧ ¬ fb l (l.size - 1) = 45) := ⟨n0, nn⟩
          clear n0 nn
          have fin : Hid (¬ (4 ≤ l.size ∧ fb l 2 = 45 ∧ fb l 3 = 45) → (∀ i, i < l.size → Ldh (fb l i)) → OkL (fb l) 0 l.size) :=
            fun h3 ha => ⟨by omega, by omega, HN.out.1, HN.out.2, by simpa using h3, fun i _ h => ha i h⟩
          by_cases h4 : 4 ≤ l.size
          · have e2 := fb_get l 2 (by omega)
            have e3 := fb_get l 3 (by omega)
            generalize hv2 : fb l 2 = v2 at e2
            generalize hv3 : fb l 3 = v3 at e3
            have HV2 : Hid (fb l 2 = v2 ∧ fb l 3 = v3) := ⟨hv2, hv3⟩
            clear hv2 hv3
            cases t3 : (v2 == 45)
            · have H3 : Hid (¬ (4 ≤ l.size ∧ fb l 2 = 45 ∧ fb l 3 = 45)) := by
                rintro ⟨_, a, _⟩; rw [HV2.out.1] at a; subst a; simp at t3
              go_enter Try.func18, Try.ntmps18
              go_wp2
              clear e0 en e2 e3 t1 t2 t3
              go_loop [4] (fun i => ∃ k : Nat, k ≤ l.size ∧ i = .int .i64 k ∧ Hid (∀ j, j < k → Ldh (fb l j))) (fun i => l.size - (intOf i).toNat)
              case atStart => exact ⟨0, Nat.zero_le _, rfl, fun j h => by omega⟩
              case round =>
                obtain ⟨k, hk, rfl, hpre⟩ := hrel
                by_cases hlt : k < l.size
                · have ek := fb_get l k hlt
                  have HY : Hid (Ldh (fb l k) → ∀ j, j < k + 1 → Ldh (fb l j)) := by
                    intro h j hj
                    by_cases e : j = k
                    · subst e; exact h
                    · exact hpre.out j (by omega)
                  have HNO : Hid (¬ Ldh (fb l k) → ¬ OkL (fb l) 0 l.size) := fun h o => h (o.all k (by omega) hlt)
                  generalize fb l k = v at ek HY HNO
                  by_cases hL : Ldh v
                  · have HL : Hid (∀ j, j < k + 1 → Ldh (fb l j)) := HY.out hL
                    clear HY HNO
                    unfold Ldh at hL
                    rcases hL with ⟨h1, h2⟩ | ⟨h1, h2⟩ | rfl
                    · go_wp2
                      go_round
                      case rel => exact ⟨k + 1, by omega, by go_num, HL⟩
                      case measure => simp [intOf]; omega
                    · have h3 : v < 97 := by omega
                      go_wp2
                      go_round
                      case rel => exact ⟨k + 1, by omega, by go_num, HL⟩
                      case measure => simp [intOf]; omega
                    · go_wp2
                      go_round
                      case rel => exact ⟨k + 1, by omega, by go_num, HL⟩
                      case measure => simp [intOf]; omega
                  · have HO : Hid (¬ OkL (fb l) 0 l.size) := HNO.out hL
                    clear HY HNO
                    unfold Ldh at hL
                    have t5 : (v != 45) = true := by simp; omega
                    have hx : v < 48 ∨ (57 < v ∧ v < 97) ∨ 122 < v := by omega
                    clear hL
                    rcases hx with h1 | ⟨h1, h2⟩ | h1
                    · go_wp2
                      go_ret
                      exact ⟨Ans.no HO.out, rfl⟩
                    · have d1 : decide (v ≤ 57) = false := decide_eq_false (by omega)
                      go_wp2
                      go_ret
                      exact ⟨Ans.no HO.out, rfl⟩
                    · have d1 : decide (v ≤ 57) = false := decide_eq_false (by omega)
                      have d2 : decide (v ≤ 122) = false := decide_eq_false (by omega)
                      go_wp2
                      go_ret
                      exact ⟨Ans.no HO.out, rfl⟩
                · have HA : Hid (∀ i, i < l.size → Ldh (fb l i)) := fun i hi => hpre.out i (by omega)
                  go_wp2
                  go_ret
                  exact ⟨Ans.yes (fin.out H3.out HA.out), rfl⟩
            · cases t4 : (v3 == 45)
              · have H3 : Hid (¬ (4 ≤ l.size ∧ fb l 2 = 45 ∧ fb l 3 = 45)) := by
                  rintro ⟨_, _, a⟩; rw [HV2.out.2] at a; subst a; simp at t4
                go_enter Try.func18, Try.ntmps18
                go_wp2
                clear e0 en e2 e3 t1 t2 t3 t4
                go_loop [4] (fun i => ∃ k : Nat, k ≤ l.size ∧ i = .int .i64 k ∧ Hid (∀ j, j < k → Ldh (fb l j))) (fun i => l.size - (intOf i).toNat)
                case atStart => exact ⟨0, Nat.zero_le _, rfl, fun j h => by omega⟩
                case round =>
                  obtain ⟨k, hk, rfl, hpre⟩ := hrel
                  by_cases hlt : k < l.size
                  · have ek := fb_get l k hlt
                    have HY : Hid (Ldh (fb l k) → ∀ j, j < k + 1 → Ldh (fb l j)) := by
                      intro h j hj
                      by_cases e : j = k
                      · subst e; exact h
                      · exact hpre.out j (by omega)
                    have HNO : Hid (¬ Ldh (fb l k) → ¬ OkL (fb l) 0 l.size) := fun h o => h (o.all k (by omega) hlt)
                    generalize fb l k = v at ek HY HNO
                    by_cases hL : Ldh v
                    · have HL : Hid (∀ j, j < k + 1 → Ldh (fb l j)) := HY.out hL
                      clear HY HNO
                      unfold Ldh at hL
                      rcases hL with ⟨h1, h2⟩ | ⟨h1, h2⟩ | rfl
                      · go_wp2
                        go_round
                        case rel => exact ⟨k + 1, by omega, by go_num, HL⟩
                        case measure => simp [intOf]; omega
                      · have h3 : v < 97 := by omega
                        go_wp2
                        go_round
                        case rel => exact ⟨k + 1, by omega, by go_num, HL⟩
                        case measure => simp [intOf]; omega
                      · go_wp2
                        go_round
                        case rel => exact ⟨k + 1, by omega, by go_num, HL⟩
                        case measure => simp [intOf]; omega
                    · have HO : Hid (¬ OkL (fb l) 0 l.size) := HNO.out hL
                      clear HY HNO
                      unfold Ldh at hL
                      have t5 : (v != 45) = true := by simp; omega
                      have hx : v < 48 ∨ (57 < v ∧ v < 97) ∨ 122 < v := by omega
                      clear hL
                      rcases hx with h1 | ⟨h1, h2⟩ | h1
                      · go_wp2
                        go_ret
                        exact ⟨Ans.no HO.out, rfl⟩
                      · have d1 : decide (v ≤ 57) = false := decide_eq_false (by omega)
                        go_wp2
                        go_ret
                        exact ⟨Ans.no HO.out, rfl⟩
                      · have d1 : decide (v ≤ 57) = false := decide_eq_false (by omega)
                        have d2 : decide (v ≤ 122) = false := decide_eq_false (by omega)
                        go_wp2
                        go_ret
                        exact ⟨Ans.no HO.out, rfl⟩
                  · have HA : Hid (∀ i, i < l.size → Ldh (fb l i)) := fun i hi => hpre.out i (by omega)
                    go_wp2
                    go_ret
                    exact ⟨Ans.yes (fin.out H3.out HA.out), rfl⟩
              · go_enter Try.func18, Try.ntmps18
                go_wp2
                go_ret
                exact ⟨Ans.no (by intro o; exact o.third ⟨by omega, by show fb l 2 = 45; rw [HV2.out.1]; simpa using t3, by show fb l 3 = 45; rw [HV2.out.2]; simpa using t4⟩), rfl⟩
          · have H3 : Hid (¬ (4 ≤ l.size ∧ fb l 2 = 45 ∧ fb l 3 = 45)) := fun h => h4 h.1
            go_enter Try.func18, Try.ntmps18
            go_wp2
            clear e0 en t1 t2
            go_loop [4] (fun i => ∃ k : Nat, k ≤ l.size ∧ i = .int .i64 k ∧ Hid (∀ j, j < k → Ldh (fb l j))) (fun i => l.size - (intOf i).toNat)
            case atStart => exact ⟨0, Nat.zero_le _, rfl, fun j h => by omega⟩
            case round =>
              obtain ⟨k, hk, rfl, hpre⟩ := hrel
              by_cases hlt : k < l.size
              · have ek := fb_get l k hlt
                have HY : Hid (Ldh (fb l k) → ∀ j, j < k + 1 → Ldh (fb l j)) := by
                  intro h j hj
                  by_cases e : j = k
                  · subst e; exact h
                  · exact hpre.out j (by omega)
                have HNO : Hid (¬ Ldh (fb l k) → ¬ OkL (fb l) 0 l.size) := fun h o => h (o.all k (by omega) hlt)
                generalize fb l k = v at ek HY HNO
                by_cases hL : Ldh v
                · have HL : Hid (∀ j, j < k + 1 → Ldh (fb l j)) := HY.out hL
                  clear HY HNO
                  unfold Ldh at hL
                  rcases hL with ⟨h1, h2⟩ | ⟨h1, h2⟩ | rfl
                  · go_wp2
                    go_round
                    case rel => exact ⟨k + 1, by omega, by go_num, HL⟩
                    case measure => simp [intOf]; omega
                  · have h3 : v < 97 := by omega
                    go_wp2
                    go_round
                    case rel => exact ⟨k + 1, by omega, by go_num, HL⟩
                    case measure => simp [intOf]; omega
                  · go_wp2
                    go_round
                    case rel => exact ⟨k + 1, by omega, by go_num, HL⟩
                    case measure => simp [intOf]; omega
                · have HO : Hid (¬ OkL (fb l) 0 l.size) := HNO.out hL
                  clear HY HNO
                  unfold Ldh at hL
                  have t5 : (v != 45) = true := by simp; omega
                  have hx : v < 48 ∨ (57 < v ∧ v < 97) ∨ 122 < v := by omega
                  clear hL
                  rcases hx with h1 | ⟨h1, h2⟩ | h1
                  · go_wp2
                    go_ret
                    exact ⟨Ans.no HO.out, rfl⟩
                  · have d1 : decide (v ≤ 57) = false := decide_eq_false (by omega)
                    go_wp2
                    go_ret
                    exact ⟨Ans.no HO.out, rfl⟩
                  · have d1 : decide (v ≤ 57) = false := decide_eq_false (by omega)
                    have d2 : decide (v ≤ 122) = false := decide_eq_false (by omega)
                    go_wp2
                    go_ret
                    exact ⟨Ans.no HO.out, rfl⟩
              · have HA : Hid (∀ i, i < l.size → Ldh (fb l i)) := fun i hi => hpre.out i (by omega)
                go_wp2
                go_ret
                exact ⟨Ans.yes (fin.out H3.out HA.out), rfl⟩
        · go_enter Try.func18, Try.ntmps18
          go_wp2
          go_ret
          exact ⟨Ans.no (by intro o; have := o.last; rw [HVN.out] at this; exact this (by simpa using t2)), rfl⟩
      · go_enter Try.func18, Try.ntmps18
        go_wp2
        go_ret
        exact ⟨Ans.no (by intro o; have := o.first; rw [HV0.out] at this; exact this (by simpa using t1)), rfl⟩
end Go.Proofs.Qxb6602804a
