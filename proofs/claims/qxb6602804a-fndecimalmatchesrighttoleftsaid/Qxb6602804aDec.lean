/-
  Seat b6602804a (regroute): decimal, from the left and from the right: the plain law and the walks.
-/
import Derived.Test.Qxb6602804aRows
import Derived.WalkKit
import Derived.WalkSpells
import Derived.ProofKit
import Derived.Below
namespace Go.Proofs.Qxb6602804a
open Go.RowKit

/-! ### The plain law -/
/-- The number that the digits write, unbounded. -/
def hv (l : List UInt8) : Int := l.foldl (fun a c => 10 * a + ((c.toNat : Int) - 48)) 0

theorem hv_snoc (l : List UInt8) (c : UInt8) : hv (l ++ [c]) = 10 * hv l + ((c.toNat : Int) - 48) := by simp [hv, List.foldl_append]

theorem hv_from (l : List UInt8) (a : Int) : l.foldl (fun a c => 10 * a + ((c.toNat : Int) - 48)) a = a * 10 ^ l.length + hv l := by
  induction l generalizing a with
  | nil => simp [hv]
  | cons c r ih =>
    unfold hv
    simp only [List.foldl_cons, List.length_cons]
    rw [ih, ih (10 * 0 + _), Int.pow_succ]
    generalize (10 : Int) ^ r.length = p
    rw [Int.add_mul, Int.mul_comm 10 a, Int.mul_assoc, Int.mul_comm 10 p]
    generalize a * (p * 10) = u
    have : (10 * 0 + ((c.toNat : Int) - 48)) = ((c.toNat : Int) - 48) := by omega
    rw [this]
    generalize ((c.toNat : Int) - 48) * p = v
    omega

theorem hv_cons (c : UInt8) (l : List UInt8) : hv (c :: l) = ((c.toNat : Int) - 48) * 10 ^ l.length + hv l := by
  have := hv_from l (10 * 0 + ((c.toNat : Int) - 48))
  have e : (10 * 0 + ((c.toNat : Int) - 48)) = ((c.toNat : Int) - 48) := by omega
  rw [e] at this
  show List.foldl _ (10 * 0 + ((c.toNat : Int) - 48)) l = _
  rw [e]; exact this

theorem wrap_shift (n : Int) : ∃ t, wrap64 n = n + 18446744073709551616 * t := ⟨-((n + 9223372036854775808) / 18446744073709551616), by unfold wrap64; omega⟩
theorem wrap_shifted (n t : Int) : wrap64 (n + 18446744073709551616 * t) = wrap64 n := by unfold wrap64; omega

theorem wrap_left (x h d : Int) (hx : x = wrap64 h) : wrap64 (wrap64 (10 * x) + d) = wrap64 (10 * h + d) := by
  subst hx; unfold wrap64; omega

theorem wrap_right (n y a d p : Int) (hn : n = wrap64 a) (hy : y = wrap64 p) : wrap64 (n + wrap64 (d * y)) = wrap64 (d * p + a) := by
  obtain ⟨t, ht⟩ := wrap_shift p
  obtain ⟨s, hs⟩ := wrap_shift a
  subst hn hy
  rw [ht, hs, Int.mul_add, show d * (18446744073709551616 * t) = 18446744073709551616 * (d * t) from by rw [← Int.mul_assoc, ← Int.mul_assoc, Int.mul_comm d], wrap_shifted]
  obtain ⟨u, hu⟩ := wrap_shift (d * p)
  rw [hu, show a + 18446744073709551616 * s + (d * p + 18446744073709551616 * u) = d * p + a + 18446744073709551616 * (s + u) from by omega, wrap_shifted]

theorem wrap_ten (y p : Int) (hy : y = wrap64 p) : wrap64 (y * 10) = wrap64 (p * 10) := by
  subst hy; unfold wrap64; omega

/-! ### What both functions compute -/
def digB (c : UInt8) : Bool := decide (48 ≤ (c.toNat : Int)) && decide ((c.toNat : Int) ≤ 57)
def dec (l : List UInt8) : Int := if l.isEmpty || !l.all digB then -1 else wrap64 (hv l)

theorem take_snoc (s : ByteArray) (k : Nat) (h : k < s.size) : s.data.toList.take (k + 1) = s.data.toList.take k ++ [s[k]] := by
  rw [List.take_succ_eq_append_getElem (by simpa using h)]; rfl
theorem drop_cons (s : ByteArray) (k : Nat) (h : k < s.size) : s.data.toList.drop k = s[k] :: s.data.toList.drop (k + 1) := by
  rw [List.drop_eq_getElem_cons (by simpa using h)]; rfl
theorem size_len (s : ByteArray) : s.data.toList.length = s.size := by simp

theorem dec_empty (s : ByteArray) (h : s.size = 0) : dec s.data.toList = -1 := by
  have : s.data.toList = [] := List.eq_nil_of_length_eq_zero (by simpa using h)
  rw [this]; rfl
theorem dec_bad (s : ByteArray) (k : Nat) (h : k < s.size) (hb : digB s[k] = false) : dec s.data.toList = -1 := by
  have hm : s[k] ∈ s.data.toList := by
    have : k < s.data.toList.length := by simpa using h
    exact List.getElem_mem this
  have : s.data.toList.all digB = false := by
    rw [List.all_eq_false]
    exact ⟨_, hm, by simp [hb]⟩
  unfold dec; rw [this]; simp
theorem dec_good (s : ByteArray) (h : 0 < s.size) (hd : s.data.toList.all digB = true) : dec s.data.toList = wrap64 (hv s.data.toList) := by
  have : s.data.toList.isEmpty = false := by
    cases e : s.data.toList with
    | nil => have := size_len s; rw [e] at this; simp at this; omega
    | cons _ _ => rfl
  unfold dec; rw [this, hd]; simp
theorem digB_lo {c : UInt8} (h : (c.toNat : Int) < 48) : digB c = false := by unfold digB; simp; omega
theorem digB_hi {c : UInt8} (h : 57 < (c.toNat : Int)) : digB c = false := by unfold digB; simp; omega
theorem digB_yes {c : UInt8} (h1 : 48 ≤ (c.toNat : Int)) (h2 : (c.toNat : Int) ≤ 57) : digB c = true := by unfold digB; simp; omega
theorem all_snoc {l : List UInt8} {c : UInt8} (h : l.all digB = true) (hc : digB c = true) : (l ++ [c]).all digB = true := by simp_all
theorem all_cons {l : List UInt8} {c : UInt8} (h : l.all digB = true) (hc : digB c = true) : (c :: l).all digB = true := by simp_all

theorem ret_int {k : IntKind} {a b : Int} (h : a = b) : Ending.returned (.int k a) = .returned (.int k b) := by rw [h]

theorem empty_yes (s : ByteArray) (h : s.size = 0) : s.toList.isEmpty = true := by
  rw [ByteArray.toList_eq, List.isEmpty_iff]
  exact List.eq_nil_of_length_eq_zero (by simpa using h)
theorem empty_no (s : ByteArray) (h : 0 < s.size) : s.toList.isEmpty = false := by
  rw [ByteArray.toList_eq]
  cases e : s.data.toList with
  | nil => have := size_len s; rw [e] at this; simp at this; omega
  | cons _ _ => rfl

theorem start_take (l : List UInt8) : Hid ((0 : Int) = wrap64 (hv (l.take 0))) := by
  show (0 : Int) = _
  rw [List.take_zero]; exact (IntWalk.wrap64_in 0 (by omega)).symm
theorem step_take (s : ByteArray) (k : Nat) (h : k < s.size) (x : Int) (hx : Hid (x = wrap64 (hv (s.data.toList.take k)))) : Hid (wrap64 (wrap64 (10 * x) + ((s[k].toNat : Int) - 48)) = wrap64 (hv (s.data.toList.take (k + 1)))) := by
  show _ = _
  rw [take_snoc s k h, hv_snoc]
  exact wrap_left x _ _ hx
theorem all_take (s : ByteArray) (k : Nat) (h : k < s.size) (ha : Hid ((s.data.toList.take k).all digB = true)) (hd : digB s[k] = true) : Hid ((s.data.toList.take (k + 1)).all digB = true) := by
  show _ = _
  rw [take_snoc s k h]
  exact all_snoc ha hd

theorem start_drop (s : ByteArray) : Hid ((0 : Int) = wrap64 (hv (s.data.toList.drop s.size))) := by
  show (0 : Int) = _
  rw [List.drop_of_length_le (by simp)]; exact (IntWalk.wrap64_in 0 (by omega)).symm
theorem start_all (s : ByteArray) : Hid ((s.data.toList.drop s.size).all digB = true) := by
  show _ = _
  rw [List.drop_of_length_le (by simp)]; rfl
theorem start_place (n : Nat) : Hid ((1 : Int) = wrap64 (10 ^ (n - n))) := by
  show (1 : Int) = _
  rw [Nat.sub_self]; exact (IntWalk.wrap64_in 1 (by omega)).symm
theorem step_drop (s : ByteArray) (k : Nat) (h : k < s.size) (x y : Int) (hx : Hid (x = wrap64 (hv (s.data.toList.drop (k + 1))))) (hy : Hid (y = wrap64 (10 ^ (s.size - (k + 1))))) :
    Hid (wrap64 (x + wrap64 (((s[k].toNat : Int) - 48) * y)) = wrap64 (hv (s.data.toList.drop k))) := by
  show _ = _
  have hl : (s.data.toList.drop (k + 1)).length = s.size - (k + 1) := by simp
  rw [drop_cons s k h, hv_cons, hl]
  exact wrap_right x y _ _ _ hx hy
theorem step_place (n k : Nat) (h : k < n) (y : Int) (hy : Hid (y = wrap64 (10 ^ (n - (k + 1))))) : Hid (wrap64 (y * 10) = wrap64 (10 ^ (n - k))) := by
  show _ = _
  rw [show n - k = n - (k + 1) + 1 by omega, Int.pow_succ]
  exact wrap_ten y _ hy
theorem all_drop (s : ByteArray) (k : Nat) (h : k < s.size) (ha : Hid ((s.data.toList.drop (k + 1)).all digB = true)) (hd : digB s[k] = true) : Hid ((s.data.toList.drop k).all digB = true) := by
  show _ = _
  rw [drop_cons s k h]
  exact all_cons ha hd

/-! ### The walks -/
set_option maxHeartbeats 800000 in
theorem decimal_any (s : ByteArray) (w : World) (hs : s.size ≤ 1048576) :
    Calls Try.prog 16 #[.string s] w fun e w' => e = .returned (.int .i64 (dec s.data.toList)) ∧ w = w' := by
  by_cases h0 : s.size = 0
  · have e0 := empty_yes s h0
    have HE : Hid (dec s.data.toList = -1) := dec_empty s h0
    clear h0
    go_enter Try.func16, Try.ntmps16
    go_wp2
    go_ret
    exact ⟨ret_int HE.out.symm, rfl⟩
  · have h1 : 0 < s.size := by omega
    have e0 := empty_no s h1
    clear h0
    go_enter Try.func16, Try.ntmps16
    go_wp2
    go_loop [3, 4] (fun n i => ∃ (k : Nat) (x : Int), k ≤ s.size ∧ i = .int .i64 k ∧ n = .int .i64 x ∧ Hid (x = wrap64 (hv (s.data.toList.take k))) ∧ Hid ((s.data.toList.take k).all digB = true)) (fun _ i => s.size - (intOf i).toNat)
    case atStart => exact ⟨0, 0, Nat.zero_le _, rfl, rfl, start_take _, rfl⟩
    case round =>
      obtain ⟨k, x, hk, rfl, rfl, hx, ha⟩ := hrel
      by_cases hlt : k < s.size
      · go_wp2
        · go_ret
          exact ⟨ret_int (dec_bad s k hlt (digB_hi (by omega))).symm, rfl⟩
        · go_round
          case rel => exact ⟨k + 1, _, by omega, by go_num, rfl, step_take s k hlt x hx, all_take s k hlt ha (digB_yes (by omega) (by omega))⟩
          case measure => simp [intOf]; omega
        · go_ret
          exact ⟨ret_int (dec_bad s k hlt (digB_lo (by omega))).symm, rfl⟩
      · have hkl : Hid (k = s.size) := by show _ = _; omega
        go_wp2
        go_ret
        have ht : s.data.toList.take k = s.data.toList := by rw [hkl.out]; exact List.take_of_length_le (by simp)
        have hx2 := hx.out
        have ha2 := ha.out
        rw [ht] at hx2 ha2
        exact ⟨ret_int (by rw [dec_good s h1 ha2]; exact hx2), rfl⟩

set_option maxHeartbeats 800000 in
theorem rightToLeft_any (s : ByteArray) (w : World) (hs : s.size ≤ 1048576) :
    Calls Try.prog 9 #[.string s] w fun e w' => e = .returned (.int .i64 (dec s.data.toList)) ∧ w = w' := by
  by_cases h0 : s.size = 0
  · have HE : Hid (dec s.data.toList = -1) := dec_empty s h0
    have t0 : ((s.size : Int) == 0) = true := by simpa using h0
    clear h0
    go_enter Try.func9, Try.ntmps9
    go_wp2
    go_ret
    exact ⟨ret_int HE.out.symm, rfl⟩
  · have h1 : 0 < s.size := by omega
    have t0 : ((s.size : Int) == 0) = false := by simpa using h0
    clear h0
    go_enter Try.func9, Try.ntmps9
    go_wp2
    go_loop [3, 4, 5] (fun n p i => ∃ (k : Nat) (x y : Int), k ≤ s.size ∧ i = .int .i64 ((k : Int) - 1) ∧ n = .int .i64 x ∧ p = .int .i64 y ∧ Hid (x = wrap64 (hv (s.data.toList.drop k))) ∧ Hid (y = wrap64 (10 ^ (s.size - k))) ∧ Hid ((s.data.toList.drop k).all digB = true)) (fun _ _ i => (intOf i + 1).toNat)
    case atStart => exact ⟨s.size, 0, 1, Nat.le_refl _, rfl, rfl, rfl, start_drop s, start_place _, start_all s⟩
    case round =>
      obtain ⟨k, x, y, hk, rfl, rfl, rfl, hx, hy, ha⟩ := hrel
      cases k with
      | zero =>
        go_wp2
        go_ret
        have hx2 := hx.out
        have ha2 := ha.out
        rw [List.drop_zero] at hx2 ha2
        exact ⟨ret_int (by rw [dec_good s h1 ha2]; exact hx2), rfl⟩
      | succ k =>
        have hlt : k < s.size := by omega
        go_wp2
        · go_ret
          exact ⟨ret_int (dec_bad s k hlt (digB_hi (by omega))).symm, rfl⟩
        · go_round
          case rel => exact ⟨k, _, _, by omega, by go_num, rfl, rfl, step_drop s k hlt x y hx hy, step_place _ k hlt y hy, all_drop s k hlt ha (digB_yes (by omega) (by omega))⟩
          case measure => simp [intOf]
        · go_ret
          exact ⟨ret_int (dec_bad s k hlt (digB_lo (by omega))).symm, rfl⟩

theorem walk_dec (s : ByteArray) (hm : s.size ≤ maxLen) (w : World) :
    Calls Try.prog 3 #[.string s] w fun e w' => e = .returned (.bool true) ∧ Grown w w' := by
  unfold maxLen at hm
  by_cases hs : s.size ≤ 1048576
  · go_enter Try.func3, Try.ntmps3
    go_wp2_with (first | (go_at_call 7; go_in) | (go_at_call 8; go_in) | (go_at_call 16; refine (decimal_any s _ hs).mono ?_; rintro e w' ⟨rfl, rfl⟩) | (go_at_call 9; refine (rightToLeft_any s _ hs).mono ?_; rintro e w' ⟨rfl, rfl⟩))
    go_ret
    exact ⟨rfl, Grown.refl _⟩
  · go_enter Try.func3, Try.ntmps3
    go_wp2
    go_ret
    exact ⟨rfl, Grown.refl _⟩

end Go.Proofs.Qxb6602804a
